/-
  What the row's list gives: io.EOF is a pointer behind an interface.
  Conditions: those of the row.
-/
import Derived.Test.YtgghadfelagghaaDoorRows
import Derived.WalkKit
import Derived.ProofKit
import Derived.OpenShut
import Derived.Lib.LaidTab
import Derived.LaidLaws
namespace Go.Proofs.YtgghadfelagghaaDoor.fnLzwBack
open Go.ChangeShapes Go.WideShapes Go.ChangeAt Go.RowKit
theorem gEof : Tryd.prog.globalNamed "io.EOF" = some 0 := by kernel_rfl
theorem gEofType : (Tryd.prog.globals[0]?).map (·.type) = some 37 := by kernel_rfl
theorem isEofType (u : TypeId) (h : Tryd.prog.typeName? 3 u = some "*errors.errorString") : u = 68 :=
  typeName_ptr_named (P := Tryd.prog) (nm := "errors.errorString") (tp := 68) (by kernel_rfl) (by kernel_rfl) (by decide) u h
theorem eof_of_laid {W : World} (h : laidMetH Tryd.prog Rows.fnLzwBackRow.laid W) : ∃ ea, W.cell? ⟨0, 0, none⟩ = some (.iface 68 (.pointer (some ea))) := by
  have h' : laidMet Tryd.prog [("io.EOF", Rows.laid_io_EOF)] W := h
  obtain ⟨ps, ⟨g, t, cs, fuel, p, q, hg, ht, hvar, hd, _, hpq⟩, _, hall⟩ := h'
  obtain rfl := Option.some.inj (gEof.symm.trans hg)
  obtain rfl := Option.some.inj (gEofType.symm.trans ht)
  cases fuel with
  | zero => cases hd
  | succ fuel =>
    unfold DataW.trod at hd
    rw [Tryd.underlying37] at hd
    split at hd
    all_goals first | (rename_i hq; cases hq; done) | (cases hd; done) | (rename_i hq _; cases hq; done) | skip
    rename_i u v _ hcs
    have hcs2 : cs = #[.iface u v] := by cases cs; simp_all
    subst hcs2
    have hc0 : W.cell? ⟨0, 0, none⟩ = some (.iface u v) := by simpa using World.var?_cell gEof hvar 0
    cases hn : Tryd.prog.typeName? 3 u with
    | none => rw [hn] at hd; cases hd
    | some name =>
      rw [hn] at hd
      obtain ⟨x, hx, he⟩ := Option.map_eq_some_iff.1 hd
      have h1 : DataW.iface name x.1 = Rows.laid_io_EOF := congrArg Prod.fst he
      unfold Rows.laid_io_EOF at h1
      injection h1 with h2 h3
      subst h2
      obtain rfl := isEofType u hn
      have hps : MemPlace.cell 0 0 ∈ ps := by rw [hpq]; simp [MemPlace.row]
      obtain ⟨_, hok⟩ := hall 0 0 hps
      obtain ⟨a, rfl⟩ := okWide_pointer Tryd.underlying68 (hok 68 v hc0)
      cases a with
      | some ea => exact ⟨ea, hc0⟩
      | none =>
        exfalso
        cases fuel with
        | zero => cases hx
        | succ fuel =>
          unfold DataW.trod at hx
          rw [Tryd.underlying68] at hx
          have hx2 : some (DataW.nil, []) = some x := hx
          have hx3 := Option.some.inj hx2
          subst hx3
          cases h3
end Go.Proofs.YtgghadfelagghaaDoor.fnLzwBack

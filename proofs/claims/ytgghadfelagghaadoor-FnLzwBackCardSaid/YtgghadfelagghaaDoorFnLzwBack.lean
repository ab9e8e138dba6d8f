/-
  The statement of the seat, proved: the contract for every argument, the witness, the card.
  Conditions: none.
-/
import Derived.Test.YtgghadfelagghaaDoorCards
import Derived.Test.YtgghadfelagghaaDoorTie
import Derived.Test.YtgghadfelagghaaDoorEof
import Derived.Test.YtgghadfelagghaaDoorLaw
import Derived.WalkKit
import Derived.ProofKit
import Derived.OpenShut
import Derived.Deep.DeepHandedRow
import Derived.Deep.DeepWitnessRowRef
import Derived.Carry
namespace Go.Proofs.YtgghadfelagghaaDoor.fnLzwBack
open Go.ChangeShapes Go.WideShapes Go.ChangeAt Go.RowKit
theorem own : ownKnob Tryd.prog.godebug = none := by kernel_rfl
theorem laidOut : laidOutB Tryd.prog = true := by kernel_rfl
theorem cells5 : Tryd.prog.cellsOf 5 = 1 := by kernel_rfl
/-- what the walk gives, opened: the slice by its address and cells -/
theorem walk {H : Type} {enc : TypeId × Value → H} (W : World) (base : Nat) (v0 : Value) (d0 : DataW H) (p : List MemPlace) (n : Int) (hv0 : Value.okWide Tryd.prog W .any base 22 v0) (h0 : DataW.Trod enc Tryd.prog W 0 (fun _ => true) true 22 v0 d0 p)
    (hw : (Lit.int .u16 n).wf = true) (hL : laidMetH Tryd.prog Rows.fnLzwBackRow.laid W) :
    Calls Tryd.prog 3 #[v0, .int .u16 n] W fun e w' => e = .returned (.bool true) ∧ Below W.heap.size W w' := by
  obtain ⟨ea, hea⟩ := eof_of_laid hL
  obtain ⟨hn0, hn1⟩ := bounds_u16 hw
  have hpos : 0 < W.heap.size := by
    refine Nat.pos_of_ne_zero fun e => ?_
    have hnone : W.heap[0]? = none := by rw [Array.getElem?_eq_none_iff]; omega
    unfold World.cell? at hea
    simp [hnone] at hea
  obtain ⟨a0, len, cap, rfl⟩ := okWide_slice Tryd.underlying22 hv0
  obtain ⟨fuel, hf⟩ := h0
  rcases open_ints Tryd.underlying22 Tryd.underlying5 cells5 hf with ⟨hcs, hx⟩ | ⟨a, len', cap', zs, hcs, _, hl, hm, hz, hx, hcell, hwz⟩
  · simp [Value.cells] at hcs
    obtain ⟨rfl, rfl, rfl⟩ := hcs
    exact law_any n hn0 (by omega) [] 0 0 none W rfl (Nat.le_refl _) (fun b hb => by cases hb) (.inl rfl) ea hea hpos
  · simp [Value.cells] at hcs
    obtain ⟨rfl, rfl, rfl⟩ := hcs
    simp only [if_true] at hz
    have hdl : ((zs.take len).map Int.toNat).length = len := by rw [List.length_map, List.length_take]; omega
    have hget : ∀ (i x : Nat), ((zs.take len).map Int.toNat)[i]? = some x → i < len ∧ zs.getD i 0 = (x : Nat) := fun i x hx => by
      have hi := (List.getElem?_eq_some_iff.1 hx).1
      rw [hdl] at hi
      rw [List.getElem?_map, List.getElem?_take, if_pos hi] at hx
      obtain ⟨y, hy, hyx⟩ := Option.map_eq_some_iff.1 hx
      have hb := bounds_u8 (hwz y (List.mem_of_getElem? hy))
      refine ⟨hi, ?_⟩
      rw [List.getD_eq_getElem?_getD, hy, ← hyx]
      show y = _
      omega
    refine law_any n hn0 (by omega) ((zs.take len).map Int.toNat) len cap (some a) W hdl hl (fun b hb => ?_) ?_ ea hea hpos
    · obtain ⟨y, hy, rfl⟩ := List.mem_map.1 hb
      have := bounds_u8 (hwz y (List.mem_of_mem_take hy))
      omega
    · by_cases h0 : len = 0
      · exact .inl h0
      · obtain ⟨b, off, rfl, hc⟩ := ints_at hcell (by omega)
        refine .inr ⟨b, off, rfl, ?_, fun i x hx => ?_⟩
        · refine Nat.lt_of_not_le fun hle => ?_
          have hnone : W.heap[b]? = none := by rw [Array.getElem?_eq_none_iff]; omega
          have h1 := hc 0 (by omega)
          unfold World.cell? at h1
          simp [hnone] at h1
        · obtain ⟨hi, hv⟩ := hget i x hx
          rw [hc i (by omega), hv]
set_option maxRecDepth 100000 in
/-- the contract, for every argument and every world that holds io.EOF -/
theorem contract (H : Type) (enc : TypeId × Value → H) (W : World) (base : Nat) (args : Array Value) (ds gs : List (DataW H)) (before : List MemPlace)
    (hval : ∀ (j : Nat) t v, Tryd.f3.params[j]? = some t → args[j]? = some v → Value.okWide Tryd.prog W .any base t v)
    (hW : DataW.Whole enc Tryd.prog Tryd.f3.params.toList Rows.fnLzwBackSpec.vars false W args.toList ds gs before) (hL : laidMetH Tryd.prog Rows.fnLzwBackRow.laid W) :
    Calls Tryd.prog 3 args W fun e W' => ∃ v, e = .returned v ∧ Rows.fnLzwBackSpec.post enc Tryd.prog Tryd.f3 false true false false W args v W' := by
  have hW' := hW
  obtain ⟨p, q, hA0, hV, rfl, hfz, hnd⟩ := hW
  have hA : DataW.TrodAll enc Tryd.prog W 0 (fun _ => true) true Tryd.f3.params.toList args.toList ds p := hA0
  rw [Tryd.params3] at hA hval
  obtain ⟨v0, vs0, d0, ds0, p0, q0, hargs, rfl, rfl, h0, r0⟩ := trodAll_cons hA
  obtain ⟨v1, vs1, d1, ds1, p1, q1, rfl, rfl, rfl, h1, r1⟩ := trodAll_cons r0
  obtain ⟨rfl, rfl, rfl⟩ := trodAll_nil r1
  obtain rfl : args = #[v0, v1] := by cases args; simp_all
  obtain ⟨rfl, rfl⟩ := trodVars_none hV
  obtain ⟨n, rfl, rfl, rfl, hw⟩ := open_int Tryd.underlying23 (hval 1 23 v1 rfl rfl) h1
  clear hA0
  simp only [List.append_nil] at hW'
  have hlt : ∀ x ∈ p0, x.block < W.heap.size := fun x hx => by simpa using hW'.lt x hx
  refine (walk W base v0 d0 p0 n (hval 0 22 v0 rfl rfl) h0 hw hL).mono fun e W' ⟨he, hb⟩ => ?_
  subst he
  have hstay : DataW.TrodAll enc Tryd.prog W' 0 (fun b => decide (b < W.heap.size)) true [22, 23] [v0, .int .u16 n] [d0, .lit (.int .u16 n)] (p0 ++ ([] ++ [])) :=
    trodAll_cons_mk (Below.trod laidOut (by kernel_rfl) (of_decide_eq_true (by kernel_rfl)) h0 hb hlt) (trodAll_cons_mk (shut_int Tryd.underlying23 hw) trodAll_mk0)
  simp only [List.append_nil] at hstay
  exact ⟨_, rfl, _, _, _, [], p0, [], hW', trodAll_cons_mk (shut_bool Tryd.underlying4 _) trodAll_mk0, hstay, rfl, hb.frame _, fun h => by cases h⟩
/-- a world for the witness: the settled one, with io.EOF laid -/
noncomputable def laidWorld (os : Os) : World :=
  let N := (World.settled Tryd.prog os).heap.size
  let w0 := World.holding Tryd.prog os ⟨#[.cells #[.string ⟨#[69, 79, 70]⟩] 70], #[], []⟩
  { w0 with heap := w0.heap.modify 0 fun
      | .cells _ t frozen => .cells #[.iface 68 (.pointer (some ⟨N, 0, none⟩))] t frozen
      | o => o }
theorem laid_met (os : Os) : laidMet Tryd.prog Rows.fnLzwBackRow.laid ((laidWorld os).forCall (fun _ _ => 0) ⟨#[], #[.slice none 0 0, .int .u16 0], []⟩).memory :=
  laidMet_of_run' 8 (by kernel_rfl) (by kernel_rfl)
theorem reads (os : Os) {H : Type} (enc : TypeId × Value → H) : ∃ places, DataW.whole enc Tryd.prog ((laidWorld os).forCall (fun _ _ => 0) ⟨#[], #[.slice none 0 0, .int .u16 0], []⟩).memory Tryd.f3.params.toList Rows.fnLzwBackSpec.vars false #[Value.slice none 0 0, .int .u16 0].toList 8 = some ([.nil, .lit (.int .u16 0)], [], places) :=
  ⟨[], by kernel_rfl⟩
set_option maxRecDepth 100000 in
theorem lifted (os : Os) (started : os.Started) (H : Type) (enc : TypeId × Value → H) (F : Stop.Interp) :
    ReturnsInHanded {} Tryd.checked os 3 .any ((OpenSpec.ofChange Rows.fnLzwBackSpec).preRow enc Tryd.prog Tryd.f3 Rows.fnLzwBackRow.domain false Rows.fnLzwBackRow.laid) (((OpenSpec.ofChange Rows.fnLzwBackSpec).at F).post enc Tryd.prog Tryd.f3 false true false false) := by
  obtain ⟨places, hx⟩ := reads os enc
  refine returnsInHanded_of_row (C := Tryd.checked) (s := OpenSpec.ofChange Rows.fnLzwBackSpec) own started (by kernel_rfl) Tryd.func3
    (witness_row_atRef (enc := enc) (C := Tryd.checked) false (laidWorld os) #[.slice none 0 0, .int .u16 0] rfl (by kernel_rfl) (by kernel_rfl) (by kernel_rfl)
      (OpenSpec.preRow_of_cond 8 hx (by kernel_rfl) (fun k hk => by cases hk) (by kernel_rfl) (laid_met os))) ?_
  intro W base args ds gs before hval hW _ _ _ hL _ _
  exact contract H enc W base args ds gs before hval hW hL
theorem said : Rows.FnLzwBackSaid :=
  OpenClaim.holds_of_cond 3 Tryd.f3 rfl rfl rfl rfl rfl rfl rfl ⟨rfl, rfl, rfl, rfl, rfl⟩ rfl rfl rfl rfl rfl (by kernel_rfl) Tryd.func3 (by kernel_rfl)
    (of_decide_eq_true (by kernel_rfl)) (by unfold Func.isWrapper; first | (rw [if_pos (by decide +kernel)]; kernel_rfl) | (rw [if_neg (by decide +kernel)]; exact ⟨rfl, rfl⟩))
    (fun os started H enc _ F => by rw [OpenClaim.pre_eq_preRow]; exact lifted os started H enc F)
/-- no parameter wants a stand-in; the program's own looks are on -/
theorem plain (f : FuncId) (fn : Func) (hf : Tryd.pinned.checked.prog.funcNamed "loop.example/pub-g03432/laws.FnLzwBack" = some f) (hfn : Tryd.pinned.checked.prog.funcs[f]? = some fn) :
    true = Tryd.pinned.checked.prog.looks [] ∧ ∀ (j : Nat) t, fn.params[j]? = some t → Tryd.pinned.checked.prog.wantsStandIn t = false := by
  obtain rfl : f = 3 := Option.some.inj ((show Tryd.prog.funcNamed "loop.example/pub-g03432/laws.FnLzwBack" = some 3 by kernel_rfl).symm.trans hf) |>.symm
  obtain rfl : fn = Tryd.f3 := (Option.some.inj (Tryd.func3.symm.trans hfn)).symm
  refine ⟨by kernel_rfl, fun j t ht => ?_⟩
  rw [Tryd.params3] at ht
  have hm : t ∈ [22, 23] := by simpa using Array.mem_of_getElem? ht
  rcases List.mem_cons.1 hm with rfl | hm
  · exact (show Tryd.prog.wantsStandIn 22 = false by kernel_rfl)
  · obtain rfl := List.mem_singleton.1 hm
    exact (show Tryd.prog.wantsStandIn 23 = false by kernel_rfl)
/-- the card -/
theorem card : Rows.FnLzwBackCardSaid :=
  Claim7.holds_tied_plain_at .later [] _ _ _ _ said (fun _ h => by cases h) (by kernel_rfl) (fun _ h => by cases h) fnLzwBack_row_tie rfl ⟨rfl, rfl⟩ (by kernel_rfl) rfl plain (by kernel_rfl)
end Go.Proofs.YtgghadfelagghaaDoor.fnLzwBack

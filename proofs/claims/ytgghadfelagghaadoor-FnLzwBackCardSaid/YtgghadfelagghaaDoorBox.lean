/-
  slices.Clone and bytes.NewReader.
  Conditions: the slice is not nil.
-/
import Derived.Test.YtgghadfelagghaaDoorRead
import Derived.Test.YtgghadfelagghaaDoorCoded
import Derived.WalkSpells
namespace Go.Proofs.YtgghadfelagghaaDoor
open Go Go.RowKit
set_option maxRecDepth 100000 in
set_option maxHeartbeats 800000 in
theorem clone_any (g off n cap : Nat) (vs : List Value) (w : World) (hl : vs.length = n) (hn : 0 < n) (hn2 : n ≤ 1000000) (hcell : ∀ j u, vs[j]? = some u → w.cell? ((⟨g, off, none⟩ : Addr).add j) = some u) (h1 : ∀ u ∈ vs, u.oneCell' = true) :
    Calls Tryd.prog 8 #[.slice (some ⟨g, off, none⟩) n cap] w fun e w' => ∃ b c, e = .returned (.slice (some ⟨b, 0, none⟩) n c) ∧ w'.ownsRow w.heap.size 5 1 (.slice (some ⟨b, 0, none⟩) n c) n vs ∧ Kp (fun _ => False) w w' := by
  have Hc := Lib.hid hcell; clear hcell
  have H1 := Lib.hid h1; clear h1
  have Hl := Lib.hid hl; clear hl
  obtain ⟨H, hH⟩ : ∃ H, w.heap.size = H := ⟨_, rfl⟩
  rw [hH]
  have HH := Lib.hid hH; clear hH
  have heq := fun wx => Lib.run_eql_slice_nil (P := Tryd.prog) wx 22 _ (some ⟨g, off, none⟩) n cap 0 0 Tryd.underlying22
  go_enter Tryd.func8, Tryd.ntmps8
  go_upto_region 3 with fail
  obtain ⟨i5, hi5, hz0, hz1, hz2⟩ := info_parts info5
  have hown0 : (w.alloc (.cells #[] 5)).ownsRow H 5 1 (.slice (some ⟨w.heap.size, 0, none⟩) 0 0) 0 [] :=
    ⟨rfl, .inr ⟨w.heap.size, 0, #[], rfl, by rw [HH.out]; exact Nat.le_refl _, heap_alloc_new w _, Nat.le_refl _, Nat.zero_le _, rfl, rfl⟩⟩
  have hnews : Hid (∀ j u, vs[j]? = some u → (w.alloc (.cells #[] 5)).cell? ((⟨g, off, none⟩ : Addr).add j) = some u) := fun j u hu => ((Kp.refl (fun _ => False) w).alloc _).cell (Hc.out j u hu) id
  go_wp2_with (at_builtin; refine wpList_append_fresh _ rfl _ _ 22 rfl H 5 i5 (.int .u8 0) 1 Tryd.underlying22 hi5 hz0 hz1 hz2 rfl _ _ _ rfl hown0 ⟨g, off, none⟩ n cap vs rfl Hl.out hnews.out H1.out ?c3 ?c4 ?c5 ?_)
  case c3 => unfold maxLen; omega
  case c4 => omega
  case c5 => simp [HH.out]
  intro v3 w3 hown3 hk3 _
  have hkc : Kp (fun _ => False) w w3 := ((Kp.refl _ w).alloc _).trans hk3 (fun k hk e => by simp [Value.ownBlock] at e; omega)
  have Hkc := Lib.hid hkc; clear hkc
  obtain ⟨b, c, hv, _, _⟩ := owns_slice hown3 hn
  subst hv
  have Hown3 := Lib.hid hown3; clear hown3
  clear hown0 hk3
  go_wp2_with fail
  go_ret
  exact ⟨b, c, rfl, Hown3.out, Hkc.out⟩
set_option maxRecDepth 100000 in
set_option maxHeartbeats 800000 in
theorem newBytes_any (p : Option Addr) (n c : Nat) (w : World) :
    Calls Tryd.prog 7 #[.slice p n c] w fun e w' => e = .returned (.pointer (some ⟨w.heap.size, 0, none⟩)) ∧ w' = w.alloc (.cells #[.slice p n c, .int .i64 0, .int .i64 (-1)] 65) := by
  go_enter Tryd.func7, Tryd.ntmps7
  go_wp2_with fail
  go_ret
  exact ⟨rfl, rfl⟩
end Go.Proofs.YtgghadfelagghaaDoor

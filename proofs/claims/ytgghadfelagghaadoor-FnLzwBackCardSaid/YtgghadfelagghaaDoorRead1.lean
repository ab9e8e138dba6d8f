/-
  'ReadByte' of bytes.Reader: it gives the byte at its place and goes on by one.
  Conditions: the place lies within the slice; the slice's cells hold the bytes and lie outside the reader's own block.
-/
import Derived.Test.YtgghadfelagghaaDoorChecked
import Derived.Test.YtgghadfelagghaaDoorPure
import Derived.Test.YtgghadfelagghaaDoorAppend
import Derived.Deep.QuietTactic
import Derived.BigQuiet
import Derived.Lib.Hide
import Derived.Deep.DeepCutAuto
namespace Go.Proofs.YtgghadfelagghaaDoor
open Go Go.RowKit
/-- the bytes.Reader in block br stands at place i of the slice sv -/
def RdAt (br : Nat) (sv : Value) (i : Nat) (w : World) : Prop := ∃ pr : Int, w.heap[br]? = some (.cells #[sv, .int .i64 (i : Nat), .int .i64 pr] 65 (0, 0))
def ReadOne (br : Nat) (sv : Value) (i x : Nat) (w : World) (e : Ending) (w' : World) : Prop :=
  e = .returned (.tuple #[.int .u8 (x : Nat), .nilIface]) ∧ RdAt br sv (i + 1) w' ∧ Kp (fun k => k = br) w w'
set_option maxHeartbeats 400000 in
theorem readByte_any (br b off len cap i x : Nat) (w : World) (h : RdAt br (.slice (some ⟨b, off, none⟩) len cap) i w) (hi : i < len) (hl : len ≤ 100000) (hx : w.cell? ⟨b, off + i, none⟩ = some (.int .u8 (x : Nat))) (hbr : b ≠ br) :
    Calls Tryd.prog 35 #[.pointer (some ⟨br, 0, none⟩)] w fun e w' => ReadOne br (.slice (some ⟨b, off, none⟩) len cap) i x w e w' := by
  obtain ⟨pr, hr⟩ := h
  have c0 : w.cell? ⟨br, 0, none⟩ = some (.slice (some ⟨b, off, none⟩) len cap) := by rw [cell_blk hr]; rfl
  have c1 : w.cell? ⟨br, 1, none⟩ = some (.int .i64 (i : Nat)) := by rw [cell_blk hr]; rfl
  have c2 : w.cell? ⟨br, 2, none⟩ = some (.int .i64 pr) := by rw [cell_blk hr]; rfl
  have f1 := frz_blk hr 1
  have f2 := frz_blk hr 2
  have HR := Lib.hid hr; clear hr
  go_enter Tryd.func35, Tryd.ntmps35
  go_upto_region 2 with fail
  obtain ⟨W, hW⟩ : ∃ W, w.setCell ⟨br, 2, none⟩ (.int .i64 (-1)) = W := ⟨_, rfl⟩
  rw [hW]
  have hr2 : W.heap[br]? = some (.cells #[.slice (some ⟨b, off, none⟩) len cap, .int .i64 (i : Nat), .int .i64 (-1)] 65 (0, 0)) := by rw [← hW, setCell_blk HR.out]; rfl
  have hk2 : Kp (fun k => k = br) w W := by rw [← hW]; exact (Kp.refl _ w).setCell _ _ (.inl rfl)
  have d0 : W.cell? ⟨br, 0, none⟩ = some (.slice (some ⟨b, off, none⟩) len cap) := by rw [cell_blk hr2]; rfl
  have d1 : W.cell? ⟨br, 1, none⟩ = some (.int .i64 (i : Nat)) := by rw [cell_blk hr2]; rfl
  have g1 := frz_blk hr2 1
  have dx : W.cell? ⟨b, off + i, none⟩ = some (.int .u8 (x : Nat)) := hk2.cell hx hbr
  have HR2 := Lib.hid hr2; clear hr2
  have HK2 := Lib.hid hk2; clear hk2
  clear hW c0 c1 c2 f1 f2 HR hx
  go_quiet (fail)
  go_wp2_with fail
  go_quiet (fail)
  go_wp2_with fail
  refine bodyPost_ret (results_tmp2 rfl _ _ _) rfl ?_
  refine ⟨rfl, ⟨-1, ?_⟩, ?_⟩
  · show ((W.setCell ⟨br, 1, none⟩ _)).heap[br]? = _
    rw [setCell_blk HR2.out]; rfl
  · exact ((HK2.out.setCell ⟨br, 1, none⟩ (.int .i64 ((i : Nat) + 1 : Int)) (.inl rfl)).drewN _)
end Go.Proofs.YtgghadfelagghaaDoor

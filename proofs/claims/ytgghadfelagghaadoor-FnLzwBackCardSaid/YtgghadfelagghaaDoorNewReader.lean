/-
  'NewReader' of lzw: the decoder that it makes.
  Conditions: the order is MSB, the words have 8 bits.
-/
import Derived.Test.YtgghadfelagghaaDoorZero
import Derived.Laws.EntriesVeiled
import Derived.StillTailTactics
namespace Go.Proofs.YtgghadfelagghaaDoor
open Go Go.RowKit
/-- the type t has the methods of the interface a -/
def asserts (P : Program) (t a : TypeId) : Bool := match P.underlying a, P.info? t with
  | some (.interface want), some i => (Instr.missingMethod want i.methods).isNone
  | _, _ => false
theorem run_asserts {P : Program} {t a x : TypeId} {v : Value} {w : World} (h : asserts P t a = true) : (Instr.typeAssert (.iface t v) x a true).run P w = .ok (.tuple #[.iface t v, .bool true]) w := by
  unfold asserts at h
  split at h
  · rename_i want i h1 h2
    have h3 : Instr.missingMethod want i.methods = none := by simpa using h
    simp [Instr.typeAssert, underlying, typeInfo, h1, h2, h3]
  · cases h
theorem asserts_33 : asserts Tryd.prog 33 50 = true := by kernel_rfl
def start0 (bv : Value) : DS := { bv := 0, nb := 0, wd := 9, err := bv, hi := 257, ov := 512, last := 65535, suf := fun _ => 0, pre := fun _ => 0, out := fun _ => 0, o := 0, rd := .slice none 0 0 }
theorem wpList_alloc_zero {ops : Array Oper} {rest : List Oper} {op : Oper} {a : Act} {w : World} {Q : Exit → Act → World → Prop} (hgd : op.guard = none) (ty : TypeId) (hop : op.op = .alloc ty) (Z : Array Value) (hz : (zeroValue ty).run Tryd.prog w = .ok (.agg Z) w)
    (h : wpList Tryd.prog ops Q rest (a.put op.dst (.pointer (some ⟨w.heap.size, 0, none⟩))) (w.alloc (.cells Z ty))) : wpList Tryd.prog ops Q (op :: rest) a w := by
  refine wpList_plain hgd fun K hK => ?_
  unfold Oper.wp execOp
  simp only [hop, Instr.alloc, Sem.run_bind, hz, Result.andThen_ok, Value.cells, newVar, newRow]
  simp
  exact hK _ _ h
theorem dc_start {br : Nat} {Z C : Array Value} (hZ : ZC Z) (hC : ((((Z.setIfInBounds 4 (.func (.func 13) #[] #[])).setIfInBounds 0 (.iface 33 (.pointer (some ⟨br, 0, none⟩)))).setIfInBounds 5 (.int .i64 8)).setIfInBounds 3 (.int .u64 9)).setIfInBounds 7 (.int .u16 256) = C) :
    DC br (start0 .nilIface) ((((C.setIfInBounds 8 (.int .u16 257)).setIfInBounds 9 (.int .u16 257)).setIfInBounds 10 (.int .u16 512)).setIfInBounds 11 (.int .u16 65535)) := by
  have hsz := hZ.size
  have hget : ∀ i, ((((C.setIfInBounds 8 (.int .u16 257)).setIfInBounds 9 (.int .u16 257)).setIfInBounds 10 (.int .u16 512)).setIfInBounds 11 (.int .u16 65535))[i]? =
      if i = 11 then some (.int .u16 65535) else if i = 10 then some (.int .u16 512) else if i = 9 then some (.int .u16 257) else if i = 8 then some (.int .u16 257) else if i = 7 then some (.int .u16 256) else if i = 3 then some (.int .u64 9)
      else if i = 5 then some (.int .i64 8) else if i = 0 then some (.iface 33 (.pointer (some ⟨br, 0, none⟩))) else if i = 4 then some (.func (.func 13) #[] #[]) else Z[i]? := by
    intro i
    rw [← hC]
    simp only [Array.getElem?_setIfInBounds, Array.size_setIfInBounds, hsz, eq_comm (b := i)]
    simp
  have hhi : ∀ i, 12 ≤ i → ((((C.setIfInBounds 8 (.int .u16 257)).setIfInBounds 9 (.int .u16 257)).setIfInBounds 10 (.int .u16 512)).setIfInBounds 11 (.int .u16 65535))[i]? = Z[i]? := by
    intro i hi
    rw [hget, if_neg (by omega), if_neg (by omega), if_neg (by omega), if_neg (by omega), if_neg (by omega), if_neg (by omega), if_neg (by omega), if_neg (by omega), if_neg (by omega)]
  refine ⟨by rw [← hC]; simpa using hsz, by rw [hget]; rfl, by rw [hget]; exact hZ.c1, by rw [hget]; exact hZ.c2, by rw [hget]; rfl, by rw [hget]; rfl, by rw [hget]; rfl, by rw [hget]; exact hZ.c6, by rw [hget]; rfl, by rw [hget]; rfl, by rw [hget]; rfl, by rw [hget]; rfl, by rw [hget]; rfl,
    fun i hi => by rw [hhi _ (by omega)]; exact hZ.csuf i hi, fun i hi => by rw [hhi _ (by omega)]; exact hZ.cpre i hi, fun i hi => by rw [hhi _ (by omega)]; exact hZ.cout i hi, by rw [hhi _ (by omega)]; exact hZ.co, by rw [hhi _ (by omega)]; exact hZ.crd⟩
set_option maxRecDepth 100000 in
set_option maxHeartbeats 800000 in
theorem newReader_any (br : Nat) (w : World) :
    Calls Tryd.prog 6 #[.iface 33 (.pointer (some ⟨br, 0, none⟩)), .int .i64 1, .int .i64 8] w fun e w' => e = .returned (.iface 48 (.pointer (some ⟨w.heap.size, 0, none⟩))) ∧ DW w.heap.size br (start0 .nilIface) w' ∧ Kp (fun _ => False) w w' := by
  obtain ⟨Z, hz, hZ⟩ := zero58
  have hta := fun wx => run_asserts (x := 47) (v := .pointer (some ⟨br, 0, none⟩)) (w := wx) asserts_33
  have HZ := Lib.hid hZ; clear hZ
  obtain ⟨H, hH⟩ : ∃ H, w.heap.size = H := ⟨_, rfl⟩
  rw [hH]
  go_enter Tryd.func6, Tryd.ntmps6
  go_upto_region 1 with fail
  go_upto_region 5 with (refine wpList_alloc_zero rfl 58 rfl Z (hz _) ?_)
  obtain ⟨W, hW⟩ : ∃ W, w.alloc (.cells Z 58) = W := ⟨_, rfl⟩
  rw [hW]
  have hb : W.heap[H]? = some (.cells Z 58 (0, 0)) := by rw [← hW, ← hH]; exact heap_alloc_new w _
  have hk : Kp (fun _ => False) w W := by rw [← hW]; exact (Kp.refl _ w).alloc _
  have hex : ∀ i, i < 12 → ∃ v, W.cell? ⟨H, i, none⟩ = some v := fun i hi => ⟨_, by rw [cell_blk hb]; exact Array.getElem?_eq_getElem (by rw [HZ.out.size]; omega)⟩
  obtain ⟨u0, d0⟩ := hex 0 (by omega)
  obtain ⟨u3, d3⟩ := hex 3 (by omega)
  obtain ⟨u4, d4⟩ := hex 4 (by omega)
  obtain ⟨u5, d5⟩ := hex 5 (by omega)
  obtain ⟨u7, d7⟩ := hex 7 (by omega)
  obtain ⟨u8, d8⟩ := hex 8 (by omega)
  obtain ⟨u9, d9⟩ := hex 9 (by omega)
  obtain ⟨u10, d10⟩ := hex 10 (by omega)
  obtain ⟨u11, d11⟩ := hex 11 (by omega)
  have g0 := frz_blk hb 0
  have g3 := frz_blk hb 3
  have g4 := frz_blk hb 4
  have g5 := frz_blk hb 5
  have g7 := frz_blk hb 7
  have g8 := frz_blk hb 8
  have g9 := frz_blk hb 9
  have g10 := frz_blk hb 10
  have g11 := frz_blk hb 11
  have Hb := Lib.hid hb; clear hb
  have Hk := Lib.hid hk; clear hk
  clear hex hW hz
  have HH := Lib.hid hH; clear hH
  go_upto_region 12 with fail
  go_upto_region 19 with fail
  obtain ⟨C, hC⟩ : ∃ C, ((((Z.setIfInBounds 4 (.func (.func 13) #[] #[])).setIfInBounds 0 (.iface 33 (.pointer (some ⟨br, 0, none⟩)))).setIfInBounds 5 (.int .i64 8)).setIfInBounds 3 (.int .u64 9)).setIfInBounds 7 (.int .u16 256) = C := ⟨_, rfl⟩
  obtain ⟨V, hV⟩ : ∃ V, ((((W.setCell ⟨H, 4, none⟩ (.func (.func 13) #[] #[])).setCell ⟨H, 0, none⟩ (.iface 33 (.pointer (some ⟨br, 0, none⟩)))).setCell ⟨H, 5, none⟩ (.int .i64 8)).setCell ⟨H, 3, none⟩ (.int .u64 9)).setCell ⟨H, 7, none⟩ (.int .u16 256) = V := ⟨_, rfl⟩
  rw [hV]
  have hb : V.heap[H]? = some (.cells C 58 (0, 0)) := by
    rw [← hV, ← hC]
    exact setCell_blk (setCell_blk (setCell_blk (setCell_blk (setCell_blk Hb.out 4 _) 0 _) 5 _) 3 _) 7 _
  have hsz : C.size = 16398 := by rw [← hC]; simpa using HZ.out.size
  have hk : Kp (fun k => k = H) W V := by
    rw [← hV]
    exact (((((Kp.refl _ W).st 4 _).st 0 _).st 5 _).st 3 _).st 7 _
  have hk0 : Kp (fun _ => False) w V := Hk.out.trans hk (fun k hk e => by have := HH.out; omega)
  have e7 : V.cell? ⟨H, 7, none⟩ = some (.int .u16 256) := by rw [cell_blk hb, ← hC]; exact set_eq (by simpa using by have := HZ.out.size; omega)
  have hex : ∀ i, i < 12 → ∃ v, V.cell? ⟨H, i, none⟩ = some v := fun i hi => ⟨_, by rw [cell_blk hb]; exact Array.getElem?_eq_getElem (by rw [hsz]; omega)⟩
  have e3 : V.cell? ⟨H, 3, none⟩ = some (.int .u64 9) := by rw [cell_blk hb, ← hC]; exact set_ne (set_eq (by simpa using by have := HZ.out.size; omega)) (by decide)
  clear d0 d3 d4 d5 d7 d8 d9 d10 d11 g0 g3 g4 g5 g7 g8 g9 g10 g11 hV
  obtain ⟨v8, d8⟩ := hex 8 (by omega)
  obtain ⟨v9, d9⟩ := hex 9 (by omega)
  obtain ⟨v10, d10⟩ := hex 10 (by omega)
  obtain ⟨v11, d11⟩ := hex 11 (by omega)
  have g8 := frz_blk hb 8
  have g9 := frz_blk hb 9
  have g10 := frz_blk hb 10
  have g11 := frz_blk hb 11
  have Hb2 := Lib.hid hb; clear hb
  have HC := Lib.hid hC; clear hC
  have Hsz := Lib.hid hsz; clear hsz
  have Hk0 := Lib.hid hk0; clear hk0
  clear hk hex
  go_region
  go_wp2_with fail
  go_ret
  refine ⟨rfl, ?_, ?_⟩
  · refine ⟨_, setCell_blk (setCell_blk (setCell_blk (setCell_blk Hb2.out 8 _) 9 _) 10 _) 11 _, ?_⟩
    exact dc_start HZ.out HC.out
  · have hk : Kp (fun k => k = H) V ((((V.setCell ⟨H, 8, none⟩ (.int .u16 257)).setCell ⟨H, 9, none⟩ (.int .u16 257)).setCell ⟨H, 10, none⟩ (.int .u16 512)).setCell ⟨H, 11, none⟩ (.int .u16 65535)).drew :=
      (((((Kp.refl _ V).st 8 _).st 9 _).st 10 _).st 11 _).drew
    exact Hk0.out.trans hk (fun k hk e => by have := HH.out; omega)
end Go.Proofs.YtgghadfelagghaaDoor

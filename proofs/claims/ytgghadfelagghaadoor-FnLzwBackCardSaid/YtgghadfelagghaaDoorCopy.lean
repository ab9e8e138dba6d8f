/-
  The built-in copy inside the decoder's own output, as one step of a region that draws its order.
  Conditions: the word lies at the output's end; there is room for it at its place.
-/
import Derived.Test.YtgghadfelagghaaDoorDec
namespace Go.Proofs.YtgghadfelagghaaDoor
open Go Go.RowKit

theorem splice_get (C : Array Value) (off : Nat) (cs : List Value) (hfit : off + cs.length ≤ C.size) (j : Nat) :
    (C.toList.take off ++ (cs ++ C.toList.drop (off + cs.length))).toArray[j]? = if j < off then C[j]? else if j < off + cs.length then cs[j - off]? else C[j]? := by
  have hl : (C.toList.take off).length = off := by simp; omega
  rw [List.getElem?_toArray]
  by_cases h1 : j < off
  · rw [if_pos h1, List.getElem?_append_left (by omega), List.getElem?_take, if_pos h1, Array.getElem?_toList]
  · rw [if_neg h1, List.getElem?_append_right (by omega), hl]
    by_cases h2 : j < off + cs.length
    · rw [if_pos h2, List.getElem?_append_left (by omega)]
    · rw [if_neg h2, List.getElem?_append_right (by omega), List.getElem?_drop, Array.getElem?_toList]
      congr 1
      omega
def outCopy (out : Nat → Nat) (o n : Nat) (W : List Nat) : Nat → Nat := fun j => if o ≤ j ∧ j < o + n then W.getD (j - o) 0 else out j
theorem DC.copy {br : Nat} {s : DS} {C : Array Value} (h : DC br s C) (o : Nat) (W : List Nat) (hfit : o + W.length ≤ 8192) :
    DC br { s with out := outCopy s.out o W.length W } (C.toList.take (8204 + o) ++ ((W.map fun b => Value.int .u8 (b : Nat)) ++ C.toList.drop (8204 + o + (W.map fun b => Value.int .u8 (b : Nat)).length))).toArray := by
  have hs := h.size
  have hf : 8204 + o + (W.map fun b => Value.int .u8 (b : Nat)).length ≤ C.size := by rw [List.length_map]; omega
  have g := splice_get C (8204 + o) (W.map fun b => Value.int .u8 (b : Nat)) hf
  rw [List.length_map] at g hf ⊢
  have lo : ∀ i u, C[i]? = some u → i < 8204 → (C.toList.take (8204 + o) ++ ((W.map fun b => Value.int .u8 (b : Nat)) ++ C.toList.drop (8204 + o + W.length))).toArray[i]? = some u := fun i u hu hi => by
    rw [g, if_pos (by omega)]; exact hu
  have hi : ∀ i u, C[i]? = some u → 16396 ≤ i → (C.toList.take (8204 + o) ++ ((W.map fun b => Value.int .u8 (b : Nat)) ++ C.toList.drop (8204 + o + W.length))).toArray[i]? = some u := fun i u hu hi => by
    rw [g, if_neg (by omega), if_neg (by omega)]; exact hu
  refine ⟨by simp; omega, lo _ _ h.c0 (by omega), lo _ _ h.c1 (by omega), lo _ _ h.c2 (by omega), lo _ _ h.c3 (by omega), lo _ _ h.c4 (by omega), lo _ _ h.c5 (by omega), lo _ _ h.c6 (by omega), lo _ _ h.c7 (by omega), lo _ _ h.c8 (by omega), lo _ _ h.c9 (by omega), lo _ _ h.c10 (by omega), lo _ _ h.c11 (by omega),
    fun i hi2 => lo _ _ (h.csuf i hi2) (by omega), fun i hi2 => lo _ _ (h.cpre i hi2) (by omega), fun i hi2 => ?_, hi _ _ h.co (by omega), hi _ _ h.crd (by omega)⟩
  rw [g]
  show _ = some (Value.int .u8 (outCopy s.out o W.length W i : Nat))
  unfold outCopy
  by_cases h1 : i < o
  · rw [if_pos (by omega), if_neg (by omega)]; exact h.cout i hi2
  · by_cases h2 : i < o + W.length
    · rw [if_neg (by omega), if_pos (by omega), if_pos (by omega), show 8204 + i - (8204 + o) = i - o by omega, List.getElem?_map, List.getD_eq_getElem?_getD, List.getElem?_eq_getElem (by omega)]
      rfl
    · rw [if_neg (by omega), if_neg (by omega), if_neg (by omega)]; exact h.cout i hi2
theorem addr_add' (b off j : Nat) : ((⟨b, off, none⟩ : Addr).add j) = ⟨b, off + j, none⟩ := by
  unfold Addr.add
  split
  · rename_i h; subst h; rfl
  · rfl
theorem setRow_kp (w : World) (g : Nat) (cs : Array Value) : Kp (fun k => k = g) w (w.setRow g cs) :=
  ⟨rfl, rfl, rfl, by simp, fun k _ hn => setRow_other w g k cs hn⟩
theorem size5 : (Tryd.prog.info? 5).map (·.size) = some 1 := by kernel_rfl
theorem step_copy_out {ops : Array Oper} {op : Oper} {a : Act} {w : World} {K : Act → World → Prop} {Q : Exit → Act → World → Prop} {E : Prop} (hgd : op.guard = none) (d s : Operand)
    (hop : op.op = .call { callee := .builtin .copy, args := #[d, s], argTypes := #[22, 22] }) (bd br : Nat) (t : DS) (hdw : DW bd br t w) (o i : Nat) (W : List Nat) (dLen dCap sLen sCap : Nat)
    (hd : a.eval d = .slice (some ⟨bd, 8204 + o, none⟩) dLen dCap) (hs : a.eval s = .slice (some ⟨bd, 8204 + i, none⟩) sLen sCap) (hsl : sLen = W.length) (hdl : W.length ≤ dLen) (hio : i + W.length = 8192) (hfit : o + W.length ≤ 8192)
    (hout : ∀ j x, W[j]? = some x → t.out (i + j) = x)
    (h : ∀ w', DW bd br { t with out := outCopy t.out o W.length W } w' → Kp (fun k => k = bd) w w' → K (a.put op.dst (.int .i64 (W.length : Nat))) w') :
    if Region.wanted op (yielded ops a.tmps) = true then Oper.wp Tryd.prog op a w K Q else E := by
  have hw : Region.wanted op (yielded ops a.tmps) = true := by simp [Region.wanted, hgd]
  rw [if_pos hw]
  obtain ⟨C, hb, hC⟩ := hdw
  have hrun := run_copy_row (P := Tryd.prog) w 22 22 op.type 5 bd (8204 + o) dLen dCap ⟨bd, 8204 + i, none⟩ sLen sCap C 58 (W.map fun b => Value.int .u8 (b : Nat)) Tryd.underlying22 size5 hb
    (by rw [List.length_map, hsl]; exact (Nat.min_eq_left hdl).symm)
    (fun j v hj => by
      rw [List.getElem?_map] at hj
      obtain ⟨x, hx, rfl⟩ := Option.map_eq_some_iff.1 hj
      have hjl := (List.getElem?_eq_some_iff.1 hx).1
      rw [addr_add', cell_blk hb, show 8204 + i + j = 8204 + (i + j) by omega, hC.cout (i + j) (by omega), hout j x hx])
    (by rw [List.length_map, hC.size]; omega)
    (fun v hv => by
      rw [List.mem_map] at hv
      obtain ⟨x, _, rfl⟩ := hv
      rfl)
  have hfin := h (w.setRow bd (C.toList.take (8204 + o) ++ ((W.map fun b => Value.int .u8 (b : Nat)) ++ C.toList.drop (8204 + o + (W.map fun b => Value.int .u8 (b : Nat)).length))).toArray) ⟨_, setRow_heap w bd C _ 58 _ hb, hC.copy o W hfit⟩ (setRow_kp _ _ _)
  unfold Oper.wp execOp
  simp only [hop, resolve, invoke, builtin, Sem.run_bind, Sem.run_pure, Result.andThen_ok, List.map_toArray, List.map_cons, List.map_nil, hd, hs, hrun]
  rw [List.length_map] at hfin ⊢
  rw [List.append_assoc]
  exact hfin
end Go.Proofs.YtgghadfelagghaaDoor

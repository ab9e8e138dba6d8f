/-
  The memory of the decoder of 'lzw': its one block of 16398 cells as a record of numbers and three tables; what reads it and what each store makes of it.
  Conditions: none but those that each lemma names.
-/
import Derived.Test.YtgghadfelagghaaDoorRead2
import Derived.Test.YtgghadfelagghaaDoorCodes
namespace Go.Proofs.YtgghadfelagghaaDoor
open Go Go.RowKit

structure DS where
  bv : Nat
  nb : Nat
  wd : Nat
  err : Value
  hi : Nat
  ov : Nat
  last : Nat
  suf : Nat → Nat
  pre : Nat → Nat
  out : Nat → Nat
  o : Nat
  rd : Value
structure DC (br : Nat) (s : DS) (C : Array Value) : Prop where
  size : C.size = 16398
  c0 : C[0]? = some (.iface 33 (.pointer (some ⟨br, 0, none⟩)))
  c1 : C[1]? = some (.int .u32 (s.bv : Nat))
  c2 : C[2]? = some (.int .u64 (s.nb : Nat))
  c3 : C[3]? = some (.int .u64 (s.wd : Nat))
  c4 : C[4]? = some (.func (.func 13) #[] #[])
  c5 : C[5]? = some (.int .i64 8)
  c6 : C[6]? = some s.err
  c7 : C[7]? = some (.int .u16 256)
  c8 : C[8]? = some (.int .u16 257)
  c9 : C[9]? = some (.int .u16 (s.hi : Nat))
  c10 : C[10]? = some (.int .u16 (s.ov : Nat))
  c11 : C[11]? = some (.int .u16 (s.last : Nat))
  csuf : ∀ i, i < 4096 → C[12 + i]? = some (.int .u8 (s.suf i : Nat))
  cpre : ∀ i, i < 4096 → C[4108 + i]? = some (.int .u16 (s.pre i : Nat))
  cout : ∀ i, i < 8192 → C[8204 + i]? = some (.int .u8 (s.out i : Nat))
  co : C[16396]? = some (.int .i64 (s.o : Nat))
  crd : C[16397]? = some s.rd
theorem set_ne {C : Array Value} {i j : Nat} {v u : Value} (h : C[i]? = some u) (hn : j ≠ i) : (C.setIfInBounds j v)[i]? = some u := by
  rw [Array.getElem?_setIfInBounds, if_neg hn]; exact h
theorem set_eq {C : Array Value} {i : Nat} {v : Value} (h : i < C.size) : (C.setIfInBounds i v)[i]? = some v := by
  rw [Array.getElem?_setIfInBounds, if_pos rfl, if_pos h]
section
variable {br : Nat} {s : DS} {C : Array Value}
theorem DC.bits (h : DC br s C) (bv nb : Nat) : DC br { s with bv := bv, nb := nb } (CC C bv nb) := by
  have hs := h.size
  have o : ∀ i u, C[i]? = some u → i ≠ 1 → i ≠ 2 → (CC C bv nb)[i]? = some u := fun i u hu h1 h2 => by rw [CC_other C bv nb i h1 h2]; exact hu
  exact ⟨by rw [CC_size]; exact hs, o _ _ h.c0 (by decide) (by decide), CC_1 C bv nb (by omega), CC_2 C bv nb (by omega), o _ _ h.c3 (by decide) (by decide), o _ _ h.c4 (by decide) (by decide), o _ _ h.c5 (by decide) (by decide), o _ _ h.c6 (by decide) (by decide),
    o _ _ h.c7 (by decide) (by decide), o _ _ h.c8 (by decide) (by decide), o _ _ h.c9 (by decide) (by decide), o _ _ h.c10 (by decide) (by decide), o _ _ h.c11 (by decide) (by decide),
    fun i hi => o _ _ (h.csuf i hi) (by omega) (by omega), fun i hi => o _ _ (h.cpre i hi) (by omega) (by omega), fun i hi => o _ _ (h.cout i hi) (by omega) (by omega), o _ _ h.co (by decide) (by decide), o _ _ h.crd (by decide) (by decide)⟩
theorem DC.setWd (h : DC br s C) (v : Nat) : DC br { s with wd := v } (C.setIfInBounds 3 (.int .u64 (v : Nat))) :=
  ⟨by simpa using h.size, set_ne h.c0 (by decide), set_ne h.c1 (by decide), set_ne h.c2 (by decide), set_eq (by have := h.size; omega), set_ne h.c4 (by decide), set_ne h.c5 (by decide), set_ne h.c6 (by decide), set_ne h.c7 (by decide), set_ne h.c8 (by decide), set_ne h.c9 (by decide), set_ne h.c10 (by decide), set_ne h.c11 (by decide),
    fun i hi => set_ne (h.csuf i hi) (by omega), fun i hi => set_ne (h.cpre i hi) (by omega), fun i hi => set_ne (h.cout i hi) (by omega), set_ne h.co (by decide), set_ne h.crd (by decide)⟩
theorem DC.setErr (h : DC br s C) (v : Value) : DC br { s with err := v } (C.setIfInBounds 6 v) :=
  ⟨by simpa using h.size, set_ne h.c0 (by decide), set_ne h.c1 (by decide), set_ne h.c2 (by decide), set_ne h.c3 (by decide), set_ne h.c4 (by decide), set_ne h.c5 (by decide), set_eq (by have := h.size; omega), set_ne h.c7 (by decide), set_ne h.c8 (by decide), set_ne h.c9 (by decide), set_ne h.c10 (by decide), set_ne h.c11 (by decide),
    fun i hi => set_ne (h.csuf i hi) (by omega), fun i hi => set_ne (h.cpre i hi) (by omega), fun i hi => set_ne (h.cout i hi) (by omega), set_ne h.co (by decide), set_ne h.crd (by decide)⟩
theorem DC.setHi (h : DC br s C) (v : Nat) : DC br { s with hi := v } (C.setIfInBounds 9 (.int .u16 (v : Nat))) :=
  ⟨by simpa using h.size, set_ne h.c0 (by decide), set_ne h.c1 (by decide), set_ne h.c2 (by decide), set_ne h.c3 (by decide), set_ne h.c4 (by decide), set_ne h.c5 (by decide), set_ne h.c6 (by decide), set_ne h.c7 (by decide), set_ne h.c8 (by decide), set_eq (by have := h.size; omega), set_ne h.c10 (by decide), set_ne h.c11 (by decide),
    fun i hi => set_ne (h.csuf i hi) (by omega), fun i hi => set_ne (h.cpre i hi) (by omega), fun i hi => set_ne (h.cout i hi) (by omega), set_ne h.co (by decide), set_ne h.crd (by decide)⟩
theorem DC.setOv (h : DC br s C) (v : Nat) : DC br { s with ov := v } (C.setIfInBounds 10 (.int .u16 (v : Nat))) :=
  ⟨by simpa using h.size, set_ne h.c0 (by decide), set_ne h.c1 (by decide), set_ne h.c2 (by decide), set_ne h.c3 (by decide), set_ne h.c4 (by decide), set_ne h.c5 (by decide), set_ne h.c6 (by decide), set_ne h.c7 (by decide), set_ne h.c8 (by decide), set_ne h.c9 (by decide), set_eq (by have := h.size; omega), set_ne h.c11 (by decide),
    fun i hi => set_ne (h.csuf i hi) (by omega), fun i hi => set_ne (h.cpre i hi) (by omega), fun i hi => set_ne (h.cout i hi) (by omega), set_ne h.co (by decide), set_ne h.crd (by decide)⟩
theorem DC.setLast (h : DC br s C) (v : Nat) : DC br { s with last := v } (C.setIfInBounds 11 (.int .u16 (v : Nat))) :=
  ⟨by simpa using h.size, set_ne h.c0 (by decide), set_ne h.c1 (by decide), set_ne h.c2 (by decide), set_ne h.c3 (by decide), set_ne h.c4 (by decide), set_ne h.c5 (by decide), set_ne h.c6 (by decide), set_ne h.c7 (by decide), set_ne h.c8 (by decide), set_ne h.c9 (by decide), set_ne h.c10 (by decide), set_eq (by have := h.size; omega),
    fun i hi => set_ne (h.csuf i hi) (by omega), fun i hi => set_ne (h.cpre i hi) (by omega), fun i hi => set_ne (h.cout i hi) (by omega), set_ne h.co (by decide), set_ne h.crd (by decide)⟩
theorem DC.setO (h : DC br s C) (v : Nat) : DC br { s with o := v } (C.setIfInBounds 16396 (.int .i64 (v : Nat))) :=
  ⟨by simpa using h.size, set_ne h.c0 (by decide), set_ne h.c1 (by decide), set_ne h.c2 (by decide), set_ne h.c3 (by decide), set_ne h.c4 (by decide), set_ne h.c5 (by decide), set_ne h.c6 (by decide), set_ne h.c7 (by decide), set_ne h.c8 (by decide), set_ne h.c9 (by decide), set_ne h.c10 (by decide), set_ne h.c11 (by decide),
    fun i hi => set_ne (h.csuf i hi) (by omega), fun i hi => set_ne (h.cpre i hi) (by omega), fun i hi => set_ne (h.cout i hi) (by omega), set_eq (by have := h.size; omega), set_ne h.crd (by decide)⟩
theorem DC.setRd (h : DC br s C) (v : Value) : DC br { s with rd := v } (C.setIfInBounds 16397 v) :=
  ⟨by simpa using h.size, set_ne h.c0 (by decide), set_ne h.c1 (by decide), set_ne h.c2 (by decide), set_ne h.c3 (by decide), set_ne h.c4 (by decide), set_ne h.c5 (by decide), set_ne h.c6 (by decide), set_ne h.c7 (by decide), set_ne h.c8 (by decide), set_ne h.c9 (by decide), set_ne h.c10 (by decide), set_ne h.c11 (by decide),
    fun i hi => set_ne (h.csuf i hi) (by omega), fun i hi => set_ne (h.cpre i hi) (by omega), fun i hi => set_ne (h.cout i hi) (by omega), set_ne h.co (by decide), set_eq (by have := h.size; omega)⟩
theorem DC.setSuf (h : DC br s C) (j v : Nat) (hj : j < 4096) : DC br { s with suf := upd s.suf j v } (C.setIfInBounds (12 + j) (.int .u8 (v : Nat))) :=
  ⟨by simpa using h.size, set_ne h.c0 (by omega), set_ne h.c1 (by omega), set_ne h.c2 (by omega), set_ne h.c3 (by omega), set_ne h.c4 (by omega), set_ne h.c5 (by omega), set_ne h.c6 (by omega), set_ne h.c7 (by omega), set_ne h.c8 (by omega), set_ne h.c9 (by omega), set_ne h.c10 (by omega), set_ne h.c11 (by omega),
    fun i hi => by
      by_cases e : i = j
      · subst e; show _ = some (Value.int .u8 (upd s.suf i v i : Nat)); rw [upd_self]; exact set_eq (by have := h.size; omega)
      · show _ = some (Value.int .u8 (upd s.suf j v i : Nat)); rw [upd_other _ _ _ _ e]; exact set_ne (h.csuf i hi) (by omega),
    fun i hi => set_ne (h.cpre i hi) (by omega), fun i hi => set_ne (h.cout i hi) (by omega), set_ne h.co (by omega), set_ne h.crd (by omega)⟩
theorem DC.setPre (h : DC br s C) (j v : Nat) (hj : j < 4096) : DC br { s with pre := upd s.pre j v } (C.setIfInBounds (4108 + j) (.int .u16 (v : Nat))) :=
  ⟨by simpa using h.size, set_ne h.c0 (by omega), set_ne h.c1 (by omega), set_ne h.c2 (by omega), set_ne h.c3 (by omega), set_ne h.c4 (by omega), set_ne h.c5 (by omega), set_ne h.c6 (by omega), set_ne h.c7 (by omega), set_ne h.c8 (by omega), set_ne h.c9 (by omega), set_ne h.c10 (by omega), set_ne h.c11 (by omega),
    fun i hi => set_ne (h.csuf i hi) (by omega),
    fun i hi => by
      by_cases e : i = j
      · subst e; show _ = some (Value.int .u16 (upd s.pre i v i : Nat)); rw [upd_self]; exact set_eq (by have := h.size; omega)
      · show _ = some (Value.int .u16 (upd s.pre j v i : Nat)); rw [upd_other _ _ _ _ e]; exact set_ne (h.cpre i hi) (by omega),
    fun i hi => set_ne (h.cout i hi) (by omega), set_ne h.co (by omega), set_ne h.crd (by omega)⟩
theorem DC.setOut (h : DC br s C) (j v : Nat) (hj : j < 8192) : DC br { s with out := upd s.out j v } (C.setIfInBounds (8204 + j) (.int .u8 (v : Nat))) :=
  ⟨by simpa using h.size, set_ne h.c0 (by omega), set_ne h.c1 (by omega), set_ne h.c2 (by omega), set_ne h.c3 (by omega), set_ne h.c4 (by omega), set_ne h.c5 (by omega), set_ne h.c6 (by omega), set_ne h.c7 (by omega), set_ne h.c8 (by omega), set_ne h.c9 (by omega), set_ne h.c10 (by omega), set_ne h.c11 (by omega),
    fun i hi => set_ne (h.csuf i hi) (by omega), fun i hi => set_ne (h.cpre i hi) (by omega),
    fun i hi => by
      by_cases e : i = j
      · subst e; show _ = some (Value.int .u8 (upd s.out i v i : Nat)); rw [upd_self]; exact set_eq (by have := h.size; omega)
      · show _ = some (Value.int .u8 (upd s.out j v i : Nat)); rw [upd_other _ _ _ _ e]; exact set_ne (h.cout i hi) (by omega),
    set_ne h.co (by omega), set_ne h.crd (by omega)⟩
end

/-- the decoder lies whole in block bd -/
def DW (bd br : Nat) (s : DS) (w : World) : Prop := ∃ C, w.heap[bd]? = some (.cells C 58 (0, 0)) ∧ DC br s C
section
variable {bd br : Nat} {s : DS} {w w' : World}
theorem DW.cell (h : DW bd br s w) {i : Nat} {v : Value} (hi : ∀ C, DC br s C → C[i]? = some v) : w.cell? ⟨bd, i, none⟩ = some v := by
  obtain ⟨C, hb, hc⟩ := h
  rw [cell_blk hb]
  exact hi C hc
theorem DW.frz (h : DW bd br s w) (i : Nat) : w.frozen? ⟨bd, i, none⟩ = false := by
  obtain ⟨C, hb, hc⟩ := h
  exact frz_blk hb i
theorem DW.drew (h : DW bd br s w) : DW bd br s w.drew := h
theorem DW.drewN (h : DW bd br s w) (n : Nat) : DW bd br s (w.drewN n) := h
theorem DW.kp (h : DW bd br s w) {S : Nat → Prop} (hk : Kp S w w') (hn : ¬ S bd) : DW bd br s w' := by
  obtain ⟨C, hb, hc⟩ := h
  exact ⟨C, hk.heap hb hn, hc⟩
theorem DW.set (h : DW bd br s w) {s' : DS} {i : Nat} {v : Value} (hi : ∀ C, DC br s C → DC br s' (C.setIfInBounds i v)) : DW bd br s' (w.setCell ⟨bd, i, none⟩ v) := by
  obtain ⟨C, hb, hc⟩ := h
  exact ⟨_, setCell_blk hb i v, hi C hc⟩
end
end Go.Proofs.YtgghadfelagghaaDoor

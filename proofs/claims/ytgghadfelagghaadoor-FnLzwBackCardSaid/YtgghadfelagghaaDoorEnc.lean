/-
  The memory of 'Coded' as its rounds keep it ('Enc'), and the contract of its closure 'clear'.
  Conditions: fewer than 10,000,000 bits have been put; fewer than 100,000 words are known.
-/
import Derived.Test.YtgghadfelagghaaDoorWord
namespace Go.Proofs.YtgghadfelagghaaDoor
open Go Go.RowKit

/-- the variables of 'Coded' in the blocks H to H+5, and what they lead to -/
structure Enc (H : Nat) (bs : List Bool) (known count : Nat) (L : List (List Nat)) (v lv : Value) (vals : List Value) (w : World) : Prop where
  px : PX w (H + 6) H v bs ((bs.length + 7) / 8)
  wv : w.heap[H + 1]? = some (.cells #[.pointer (some ⟨H, 0, none⟩)] 40 (0, 0))
  kn : w.heap[H + 2]? = some (.cells #[.int .i64 (known : Nat)] 3 (0, 0))
  li : w.heap[H + 4]? = some (.cells #[lv] 43 (0, 0))
  co : w.heap[H + 5]? = some (.cells #[.int .i64 (count : Nat)] 3 (0, 0))
  lo : w.ownsRow (H + 3) 22 1 lv L.length vals
  lb : ∀ g, lv.ownBlock = some g → g = H + 3 ∨ H + 6 ≤ g
  words : ∀ (k : Nat) (x : Value) (word : List Nat), vals[k]? = some x → L[k]? = some word → w.ownsRow (H + 6) 5 1 x word.length (u8v word) ∧ ∀ g, x.ownBlock = some g → v.ownBlock ≠ some g

theorem own_kind {w : World} {base base' n n' : Nat} {e e' : TypeId} {v v' : Value} {xs xs' : List Value} (h : w.ownsRow base e 1 v n xs) (h' : w.ownsRow base' e' 1 v' n' xs') (he : e ≠ e')
    {g : Nat} (hg : v.ownBlock = some g) : v'.ownBlock ≠ some g := by
  intro hg'
  rcases h.2 with ⟨rfl, _⟩ | ⟨g1, cap, cur, rfl, _, h1, _⟩
  · simp [Value.ownBlock] at hg
  · rcases h'.2 with ⟨rfl, _⟩ | ⟨g2, cap2, cur2, rfl, _, h2, _⟩
    · simp [Value.ownBlock] at hg'
    · simp only [Value.ownBlock, Option.some.injEq] at hg hg'
      subst hg; subst hg'
      rw [h1] at h2
      simp at h2
      exact he h2.2
/-- behind a put -/
theorem Enc.put {H : Nat} {bs bs' : List Bool} {known count : Nat} {L : List (List Nat)} {v lv : Value} {vals : List Value} {w w' : World} (h : Enc H bs known count L v lv vals w)
    (hw : Wrote w (H + 6) H v bs' w') : ∃ v', Enc H bs' known count L v' lv vals w' ∧ Below H w w' := by
  obtain ⟨v', hp, hk, ho⟩ := hw
  have hvb : ∀ g, v.ownBlock = some g → H + 6 ≤ g := fun g hg => (h.px.own.lt g hg).1
  have hS : ∀ k, k ≠ H → k < H + 6 → ¬ (k = H ∨ v.ownBlock = some k) := fun k h1 h2 e => by
    rcases e with e | e
    · exact h1 e
    · have := hvb k e; omega
  refine ⟨v', ⟨hp, hk.heap h.wv (hS _ (by omega) (by omega)), hk.heap h.kn (hS _ (by omega) (by omega)), hk.heap h.li (hS _ (by omega) (by omega)), hk.heap h.co (hS _ (by omega) (by omega)), ?_, h.lb, ?_⟩, ?_⟩
  · refine hk.row h.lo (fun g hg e => ?_)
    rcases e with e | e
    · rcases h.lb g hg with h' | h' <;> omega
    · exact own_kind h.px.own h.lo (by decide) e hg
  · intro k x word hx hword
    obtain ⟨h1, h2⟩ := h.words k x word hx hword
    refine ⟨hk.row h1 (fun g hg e => ?_), fun g hg e => ?_⟩
    · rcases e with e | e
      · have := (h1.lt g hg).1; omega
      · exact h2 g hg e
    · rcases ho g e with h' | h'
      · exact h2 g hg h'
      · have := (h1.lt g hg).2; omega
  · exact hk.below (fun k hk2 e => by
      rcases e with e | e
      · omega
      · have := hvb k e; omega) (by have := h.px.hb; omega)

theorem PX.drew {w : World} {base bw : Nat} {v : Value} {bs : List Bool} {m : Nat} (h : PX w base bw v bs m) : PX w.drew base bw v bs m := ⟨h.blk, h.own, h.lt, h.hb⟩
theorem Wrote.of_drew {w : World} {base bw : Nat} {v : Value} {bs : List Bool} {wr : World} (h : Wrote w.drew base bw v bs wr) : Wrote w base bw v bs wr := by
  obtain ⟨v', hp, hk, ho⟩ := h
  exact ⟨v', hp, ⟨hk.os, hk.tape, hk.output, hk.size, hk.block⟩, ho⟩
section
variable {H : Nat} {bs : List Bool} {known count : Nat} {L : List (List Nat)} {v lv : Value} {vals : List Value} {w : World}
/-- what is above the variables' blocks stays where one of these is written -/
theorem Enc.rows (h : Enc H bs known count L v lv vals w) {w' : World} {S : Nat → Prop} (hk : Kp S w w') (hS : ∀ k, k < w.heap.size → S k → H < k ∧ k < H + 6 ∧ k ≠ H + 3) :
    PX w' (H + 6) H v bs ((bs.length + 7) / 8) ∧ w'.ownsRow (H + 3) 22 1 lv L.length vals ∧
    (∀ (k : Nat) (x : Value) (word : List Nat), vals[k]? = some x → L[k]? = some word → w'.ownsRow (H + 6) 5 1 x word.length (u8v word) ∧ ∀ g, x.ownBlock = some g → v.ownBlock ≠ some g) := by
  refine ⟨⟨hk.heap h.px.blk (fun e => ?_), hk.row h.px.own (fun g hg e => ?_), h.px.lt, Nat.le_trans h.px.hb hk.size⟩, hk.row h.lo (fun g hg e => ?_), fun k x word hx hw => ?_⟩
  · have := hS _ (lt_blk h.px.blk) e; omega
  · have h1 := h.px.own.lt g hg
    have := hS _ h1.2 e; omega
  · have h1 := h.lo.lt g hg
    have h2 := h.lb g hg
    have := hS _ h1.2 e; omega
  · obtain ⟨h1, h2⟩ := h.words k x word hx hw
    refine ⟨hk.row h1 (fun g hg e => ?_), h2⟩
    have h3 := h1.lt g hg
    have := hS _ h3.2 e; omega
theorem Enc.setKnown (h : Enc H bs known count L v lv vals w) (k : Nat) : Enc H bs k count L v lv vals (w.setCell ⟨H + 2, 0, none⟩ (.int .i64 (k : Nat))) := by
  obtain ⟨h1, h2, h3⟩ := h.rows (S := fun k => k = H + 2) ((Kp.refl _ w).setCell ⟨H + 2, 0, none⟩ (.int .i64 (k : Nat)) (.inl rfl)) (fun k _ e => by omega)
  exact ⟨h1, setCell_other h.wv _ _ (by omega), by rw [setCell_blk h.kn]; rfl, setCell_other h.li _ _ (by omega), setCell_other h.co _ _ (by omega), h2, h.lb, h3⟩
theorem Enc.setCount (h : Enc H bs known count L v lv vals w) (k : Nat) : Enc H bs known k L v lv vals (w.setCell ⟨H + 5, 0, none⟩ (.int .i64 (k : Nat))) := by
  obtain ⟨h1, h2, h3⟩ := h.rows (S := fun k => k = H + 5) ((Kp.refl _ w).setCell ⟨H + 5, 0, none⟩ (.int .i64 (k : Nat)) (.inl rfl)) (fun k _ e => by omega)
  exact ⟨h1, setCell_other h.wv _ _ (by omega), setCell_other h.kn _ _ (by omega), setCell_other h.li _ _ (by omega), by rw [setCell_blk h.co]; rfl, h2, h.lb, h3⟩
theorem Enc.alloc (h : Enc H bs known count L v lv vals w) (o : Obj) : Enc H bs known count L v lv vals (w.alloc o) := by
  obtain ⟨h1, h2, h3⟩ := h.rows (S := fun _ => False) ((Kp.refl _ w).alloc o) (fun k _ e => e.elim)
  exact ⟨h1, alloc_old _ h.wv, alloc_old _ h.kn, alloc_old _ h.li, alloc_old _ h.co, h2, h.lb, h3⟩
theorem Enc.drew (h : Enc H bs known count L v lv vals w) : Enc H bs known count L v lv vals w.drew := ⟨h.px.drew, h.wv, h.kn, h.li, h.co, h.lo, h.lb, h.words⟩
/-- another list is laid into the variable -/
theorem Enc.setList (h : Enc H bs known count L v lv vals w) {lv' : Value} {L' : List (List Nat)} {vals' : List Value} (ho : w.ownsRow (H + 3) 22 1 lv' L'.length vals') (hb : ∀ g, lv'.ownBlock = some g → g = H + 3 ∨ H + 6 ≤ g)
    (hw : ∀ (k : Nat) (x : Value) (word : List Nat), vals'[k]? = some x → L'[k]? = some word → w.ownsRow (H + 6) 5 1 x word.length (u8v word) ∧ ∀ g, x.ownBlock = some g → v.ownBlock ≠ some g) :
    Enc H bs known count L' v lv' vals' (w.setCell ⟨H + 4, 0, none⟩ lv') := by
  have hk : Kp (fun k => k = H + 4) w (w.setCell ⟨H + 4, 0, none⟩ lv') := (Kp.refl _ w).setCell _ _ (.inl rfl)
  obtain ⟨h1, _, _⟩ := h.rows (S := fun k => k = H + 4) hk (fun k _ e => by omega)
  refine ⟨h1, setCell_other h.wv _ _ (by omega), setCell_other h.kn _ _ (by omega), by rw [setCell_blk h.li]; rfl, setCell_other h.co _ _ (by omega), hk.row ho (fun g hg e => ?_), hb, fun k x word hx hword => ?_⟩
  · have := hb g hg; omega
  · obtain ⟨h2, h3⟩ := hw k x word hx hword
    refine ⟨hk.row h2 (fun g hg e => ?_), h3⟩
    have := (h2.lt g hg).1; omega
end
/-- what 'clear' leaves -/
def Cleared (H : Nat) (bs : List Bool) (w w' : World) : Prop :=
  ∃ v lv, Enc H bs 258 0 [] v lv [] w' ∧ Below H w w'

set_option maxHeartbeats 400000 in
theorem clear_any (H : Nat) (bs : List Bool) (known count : Nat) (L : List (List Nat)) (v lv : Value) (vals : List Value) (w : World) (h : Enc H bs known count L v lv vals w)
    (hk : known < 100000) (hb : bs.length < 10000000) :
    Calls Tryd.prog 9 #[.pointer (some ⟨H + 1, 0, none⟩), .pointer (some ⟨H + 2, 0, none⟩), .pointer (some ⟨H + 5, 0, none⟩), .pointer (some ⟨H + 4, 0, none⟩)] w
      fun e w' => e = .returned (.tuple #[]) ∧ Cleared H (bs ++ msb 256 (lw known)) w w' := by
  have c1 : w.cell? ⟨H + 1, 0, none⟩ = some (.pointer (some ⟨H, 0, none⟩)) := by rw [cell_blk h.wv]; rfl
  have c2 : w.cell? ⟨H + 2, 0, none⟩ = some (.int .i64 (known : Nat)) := by rw [cell_blk h.kn]; rfl
  have HE := Lib.hid h; clear h
  go_enter Tryd.func9, Tryd.ntmps9
  go_upto_region 0 with fail
  refine wp_region_still_tail 3 (by kernel_rfl) (by kernel_rfl) ?_
  simp only [List.take_succ_cons, List.take_zero, List.drop_succ_cons, List.drop_zero]
  still_step
  still_step
  still_call ((width_any known _ hk).mono fun e w' ⟨he, hw⟩ => ⟨he, hw.symm⟩)
  refine wpStill_nil ?_
  change wpList _ _ _ _ _ w.drew
  go_wp2_with fail
  refine (word_any 256 (lw known) _ (H + 6) H v bs HE.out.px.drew (lw_le known) hb).mono ?_
  rintro e w1 ⟨rfl, hw1⟩
  obtain ⟨v1, h1, hb1⟩ := HE.out.put (show Wrote w (H + 6) H v (bs ++ msb 256 (lw known)) w1 from hw1.of_drew)
  have d2 : w1.cell? ⟨H + 2, 0, none⟩ = some (.int .i64 (known : Nat)) := by rw [cell_blk h1.kn]; rfl
  have d4 : w1.cell? ⟨H + 4, 0, none⟩ = some lv := by rw [cell_blk h1.li]; rfl
  have d5 : w1.cell? ⟨H + 5, 0, none⟩ = some (.int .i64 (count : Nat)) := by rw [cell_blk h1.co]; rfl
  have f2 := frz_blk h1.kn 0
  have f4 := frz_blk h1.li 0
  have f5 := frz_blk h1.co 0
  have HE1 := Lib.hid h1; clear h1
  have hsz : H + 6 ≤ w1.heap.size := HE1.out.px.hb
  have h24 : H + 4 < w1.heap.size := by omega
  go_wp2
  refine bodyPost_end (results_none rfl _ _ _) rfl ⟨rfl, v1, .slice (some ⟨w1.heap.size, 0, none⟩) 0 0, ?_, ?_⟩
  · have h2 := ((HE1.out.setKnown 258).setCount 0).alloc (.cells #[] 22)
    have hs : ((w1.setCell ⟨H + 2, 0, none⟩ (.int .i64 (258 : Nat))).setCell ⟨H + 5, 0, none⟩ (.int .i64 (0 : Nat))).heap.size = w1.heap.size := by simp
    have ho := World.ownsRow_made (base := H + 3) (e := 22) (size := 1) ((w1.setCell ⟨H + 2, 0, none⟩ (.int .i64 (258 : Nat))).setCell ⟨H + 5, 0, none⟩ (.int .i64 (0 : Nat))) #[] 0 (by rw [hs]; omega) (by decide) (by simp)
    rw [hs] at ho
    have h3 := h2.setList (L' := []) ho (fun g hg => by simp [Value.ownBlock] at hg; omega) (fun k x word hx => by simp at hx)
    rw [World.setCell_alloc_past _ _ _ _ (by rw [hs]; exact h24)] at h3
    exact h3
  · exact ((((hb1.setCell (p := ⟨H + 2, 0, none⟩) (show H ≤ H + 2 by omega) _).setCell (p := ⟨H + 5, 0, none⟩) (show H ≤ H + 5 by omega) _).setCell (p := ⟨H + 4, 0, none⟩) (show H ≤ H + 4 by omega) _).alloc (by simp; omega) _)
end Go.Proofs.YtgghadfelagghaaDoor

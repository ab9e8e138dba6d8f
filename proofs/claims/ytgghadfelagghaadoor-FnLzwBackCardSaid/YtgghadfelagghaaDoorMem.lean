/-
  Memory that a call leaves as it was: 'Kp S w w'': the world w' is w but for the blocks of S and for new ones. Small facts on blocks that are known whole.
  Conditions: none but those that each lemma names.
-/
import Derived.WalkKit
import Derived.Deep.Draws
import Derived.Laws.CopyOwn
namespace Go.Proofs.YtgghadfelagghaaDoor
open Go Go.RowKit

structure Kp (S : Nat → Prop) (w w' : World) : Prop where
  os : w'.os = w.os
  tape : w'.tape = w.tape
  output : w'.output = w.output
  size : w.heap.size ≤ w'.heap.size
  block : ∀ k, k < w.heap.size → ¬ S k → w'.heap[k]? = w.heap[k]?
section
variable {S S' : Nat → Prop} {a w w' : World}
theorem Kp.refl (S : Nat → Prop) (w : World) : Kp S w w := ⟨rfl, rfl, rfl, Nat.le_refl _, fun _ _ _ => rfl⟩
theorem Kp.mono (h : Kp S w w') (hs : ∀ k, k < w.heap.size → S k → S' k) : Kp S' w w' :=
  ⟨h.os, h.tape, h.output, h.size, fun k hk hn => h.block k hk (fun x => hn (hs k hk x))⟩
theorem Kp.trans (h : Kp S a w) (k : Kp S' w w') (hs : ∀ k, k < a.heap.size → S' k → S k) : Kp S a w' :=
  ⟨k.os.trans h.os, k.tape.trans h.tape, k.output.trans h.output, Nat.le_trans h.size k.size, fun i hi hn =>
    (k.block i (Nat.lt_of_lt_of_le hi h.size) (fun x => hn (hs i hi x))).trans (h.block i hi hn)⟩
theorem Kp.drew (h : Kp S a w) : Kp S a w.drew := ⟨h.os, h.tape, h.output, h.size, h.block⟩
theorem Kp.drewN (h : Kp S a w) (n : Nat) : Kp S a (w.drewN n) := ⟨h.os, h.tape, h.output, h.size, h.block⟩
theorem Kp.alloc (h : Kp S a w) (o : Obj) : Kp S a (w.alloc o) :=
  h.trans (S' := fun _ => False) ⟨rfl, rfl, rfl, by simp, fun k hk _ => heap_alloc_old w o hk⟩ (fun _ _ x => x.elim)
theorem Kp.setCell (h : Kp S a w) (p : Addr) (u : Value) (hp : S p.block ∨ a.heap.size ≤ p.block) : Kp S a (w.setCell p u) :=
  h.trans (S' := fun k => k = p.block) ⟨rfl, rfl, rfl, by simp, fun k _ hn => Below.heap_setCell w p u k hn⟩ (fun k hk e => by
    subst e; rcases hp with hp | hp
    · exact hp
    · omega)
theorem Kp.grown {row : Option Nat} (h : Kp S a w) (hg : w.grownBy w' row) (hr : ∀ k, row = some k → S k ∨ a.heap.size ≤ k) : Kp S a w' :=
  h.trans (S' := fun k => row = some k) ⟨hg.os, hg.tape, hg.output, hg.size, fun k hk hn => hg.block k hk (fun e => hn e.symm)⟩ (fun k hk e => by
    rcases hr k e with hp | hp
    · exact hp
    · omega)
theorem Kp.heap (h : Kp S w w') {k : Nat} {o : Obj} (hk : w.heap[k]? = some o) (hn : ¬ S k) : w'.heap[k]? = some o :=
  (h.block k (Array.getElem?_eq_some_iff.1 hk).1 hn).trans hk
theorem Kp.cell (h : Kp S w w') {p : Addr} {v : Value} (hc : w.cell? p = some v) (hn : ¬ S p.block) : w'.cell? p = some v :=
  (World.cell?_of_block (h.block p.block (World.block_lt_of_cell? w p hc) hn)).trans hc
theorem Kp.row {base size n : Nat} {e : TypeId} {v : Value} {xs : List Value} (h : Kp S w w') (ho : w.ownsRow base e size v n xs) (hn : ∀ g, v.ownBlock = some g → ¬ S g) :
    w'.ownsRow base e size v n xs := by
  refine ⟨ho.1, ?_⟩
  rcases ho.2 with hx | ⟨g, cap, cur, rfl, hb, hg, rest⟩
  · exact .inl hx
  · exact .inr ⟨g, cap, cur, rfl, hb, h.heap hg (hn g rfl), rest⟩
theorem Kp.below {B : Nat} (h : Kp S w w') (hs : ∀ k, k < B → ¬ S k) (hB : B ≤ w.heap.size) : Below B w w' :=
  ⟨h.os, h.tape, h.output, h.size, fun k hk => h.block k (by omega) (hs k hk)⟩
theorem Kp.of_below {B : Nat} (h : Below B w w') : Kp (fun k => B ≤ k) w w' :=
  ⟨h.os, h.tape, h.output, h.size, fun k _ hn => h.block k (by omega)⟩
end

theorem cell_blk {w : World} {b : Nat} {c : Array Value} {T : TypeId} {fr : Nat × Nat} (h : w.heap[b]? = some (.cells c T fr)) (i : Nat) : w.cell? ⟨b, i, none⟩ = c[i]? := by
  simp [World.cell?, h]
theorem frz_blk {w : World} {b : Nat} {c : Array Value} {T : TypeId} (h : w.heap[b]? = some (.cells c T (0,0))) (i : Nat) : w.frozen? ⟨b, i, none⟩ = false := by
  simp [World.frozen?, h]
theorem lt_blk {w : World} {b : Nat} {o : Obj} (h : w.heap[b]? = some o) : b < w.heap.size := (Array.getElem?_eq_some_iff.1 h).1
theorem setCell_blk {w : World} {b : Nat} {c : Array Value} {T : TypeId} {fr : Nat × Nat} (h : w.heap[b]? = some (.cells c T fr)) (i : Nat) (u : Value) :
    (w.setCell ⟨b, i, none⟩ u).heap[b]? = some (.cells (c.setIfInBounds i u) T fr) := by
  simp only [World.setCell, Array.getElem?_modify, if_true, h, Option.map_some]
  rfl
theorem setCell_other {w : World} {b k : Nat} {o : Obj} (h : w.heap[k]? = some o) (i : Nat) (u : Value) (hn : k ≠ b) :
    (w.setCell ⟨b, i, none⟩ u).heap[k]? = some o := (Below.heap_setCell w ⟨b, i, none⟩ u k hn).trans h
theorem alloc_old {w : World} {k : Nat} {o : Obj} (x : Obj) (h : w.heap[k]? = some o) : (w.alloc x).heap[k]? = some o := (heap_alloc_old w x (lt_blk h)).trans h
end Go.Proofs.YtgghadfelagghaaDoor

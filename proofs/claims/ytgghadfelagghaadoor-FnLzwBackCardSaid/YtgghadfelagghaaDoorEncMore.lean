/-
  More on the memory of 'Coded': what leaves it as it was, and a word that is put behind its list. The relation that holds at each head of its outer loop.
  Conditions: none but those that each lemma names.
-/
import Derived.Test.YtgghadfelagghaaDoorEnc
import Derived.Test.YtgghadfelagghaaDoorCodes
import Derived.Test.YtgghadfelagghaaDoorBytes
import Derived.Deep.Draws
namespace Go.Proofs.YtgghadfelagghaaDoor
open Go Go.RowKit

section
variable {P : Program} {w : World}
/-- append onto a slice of the call's own, as one step of a region that draws its order -/
theorem step_append_fresh {ops : Array Oper} {o : Oper} {a : Act} {K : Act → World → Prop} {Q : Exit → Act → World → Prop} {E : Prop} (hgd : o.guard = none) (s x : Operand) (t : TypeId)
    (ho : o.op = .call { callee := .builtin .append, args := #[s, x], argTypes := #[t, t] })
    (base : Nat) (e : TypeId) (i : TypeInfo) (z : Value) (bytes : Nat) (ht : P.underlying t = some (.slice e)) (hi : P.info? e = some i) (hz : i.zero = some z)
    (hsize : i.size = 1) (hby : i.bytes = bytes) (hzs : z.cells.size = 1)
    (v : Value) (n : Nat) (xs : List Value) (hs : a.eval s = v) (hown : w.ownsRow base e 1 v n xs)
    (ad : Addr) (m c : Nat) (news : List Value) (hx : a.eval x = .slice (some ad) m c) (hl : news.length = m) (hnews : ∀ j u, news[j]? = some u → w.cell? (ad.add j) = some u) (h1 : ∀ u ∈ news, u.oneCell' = true)
    (h63 : n + m ≤ maxLen) (hbytes : (n + m) * bytes ≤ 140737488355328) (hbase : base ≤ w.heap.size)
    (h : ∀ v' w', w'.ownsRow base e 1 v' (n + m) (xs ++ news) → Kp (fun k => v.ownBlock = some k) w w' → (∀ g, v'.ownBlock = some g → v.ownBlock = some g ∨ w.heap.size ≤ g) → K (a.put o.dst v') w') :
    if Region.wanted o (yielded ops a.tmps) = true then Oper.wp P o a w K Q else E := by
  have hw : Region.wanted o (yielded ops a.tmps) = true := by simp [Region.wanted, hgd]
  rw [if_pos hw]
  obtain ⟨v', w', hr, h2, h3, h4⟩ := run_append_fresh (P := P) w base t o.type e i z bytes ht hi hz hsize hby hzs v n xs hown ad m c news hl hnews h1 h63 hbytes hbase
  unfold Oper.wp execOp
  simp only [ho, resolve, invoke, builtin, Sem.run_bind, Sem.run_pure, Result.andThen_ok, List.map_toArray, List.map_cons, List.map_nil, hs, hx, hr]
  exact h v' w' h2 h3 h4
end

section
variable {H : Nat} {bs : List Bool} {known count : Nat} {L : List (List Nat)} {v lv : Value} {vals : List Value} {w w' : World}
theorem Enc.newer (h : Enc H bs known count L v lv vals w) {S : Nat → Prop} (hk : Kp S w w')
    (hS : ∀ k, k < w.heap.size → ¬ S k) : Enc H bs known count L v lv vals w' := by
  obtain ⟨h1, h2, h3⟩ := h.rows hk (fun k hk e => (hS k hk e).elim)
  exact ⟨h1, hk.heap h.wv (hS _ (lt_blk h.wv)), hk.heap h.kn (hS _ (lt_blk h.kn)), hk.heap h.li (hS _ (lt_blk h.li)), hk.heap h.co (hS _ (lt_blk h.co)), h2, h.lb, h3⟩
theorem Enc.drewN (h : Enc H bs known count L v lv vals w) (q : Nat) : Enc H bs known count L v lv vals (w.drewN q) := ⟨⟨h.px.blk, h.px.own, h.px.lt, h.px.hb⟩, h.wv, h.kn, h.li, h.co, h.lo, h.lb, h.words⟩
theorem Enc.keep (h : Enc H bs known count L v lv vals w) {S : Nat → Prop} (hk : Kp S w w') (h0 : ∀ k, S k → H + 6 ≤ k) (hv : ∀ g, v.ownBlock = some g → ¬ S g) (hl : ∀ g, lv.ownBlock = some g → ¬ S g)
    (hx : ∀ (k : Nat) (x : Value) (g : Nat), vals[k]? = some x → x.ownBlock = some g → ¬ S g) : Enc H bs known count L v lv vals w' := by
  have hs : ∀ k, k < H + 6 → ¬ S k := fun k hk e => by have := h0 k e; omega
  refine ⟨⟨hk.heap h.px.blk (hs _ (by omega)), hk.row h.px.own hv, h.px.lt, Nat.le_trans h.px.hb hk.size⟩, hk.heap h.wv (hs _ (by omega)), hk.heap h.kn (hs _ (by omega)), hk.heap h.li (hs _ (by omega)), hk.heap h.co (hs _ (by omega)), hk.row h.lo hl, h.lb, fun k x word hx1 hw => ?_⟩
  obtain ⟨h1, h2⟩ := h.words k x word hx1 hw
  exact ⟨hk.row h1 (fun g hg => hx k x g hx1 hg), h2⟩
/-- a word is put behind the list -/
theorem Enc.grow (h : Enc H bs known count L v lv vals w) {x : Value} {word : List Nat} (hx : w.ownsRow (H + 6) 5 1 x word.length (u8v word)) (hxv : ∀ g, x.ownBlock = some g → v.ownBlock ≠ some g)
    {v5 : Value} (ho : w'.ownsRow (H + 3) 22 1 v5 (L.length + 1) (vals ++ [x])) (hk : Kp (fun k => lv.ownBlock = some k) w w') (hf : ∀ g, v5.ownBlock = some g → lv.ownBlock = some g ∨ w.heap.size ≤ g) :
    Enc H bs known count (L ++ [word]) v v5 (vals ++ [x]) (w'.setCell ⟨H + 4, 0, none⟩ v5) := by
  have hb := h.px.hb
  have hlv : ∀ k, k ≠ H + 3 → k < H + 6 → ¬ lv.ownBlock = some k := fun k h1 h2 e => by
    have := h.lb k e; omega
  have hk2 : Kp (fun k => k = H + 4) w' (w'.setCell ⟨H + 4, 0, none⟩ v5) := (Kp.refl _ w').setCell _ _ (.inl rfl)
  have hv5 : ∀ g, v5.ownBlock = some g → g = H + 3 ∨ H + 6 ≤ g := fun g hg => by
    rcases hf g hg with h1 | h1
    · exact h.lb g h1
    · right; omega
  have u8keep : ∀ (y : Value) (n : Nat) (xs : List Value), w.ownsRow (H + 6) 5 1 y n xs → (w'.setCell ⟨H + 4, 0, none⟩ v5).ownsRow (H + 6) 5 1 y n xs := fun y n xs hy => by
    refine hk2.row (hk.row hy (fun g hg e => own_kind hy h.lo (by decide) hg e)) (fun g hg e => ?_)
    have := (hy.lt g hg).1; omega
  refine ⟨⟨?_, u8keep _ _ _ h.px.own, h.px.lt, ?_⟩, ?_, ?_, ?_, ?_, ?_, hv5, ?_⟩
  · exact setCell_other (hk.heap h.px.blk (hlv _ (by omega) (by omega))) _ _ (by omega)
  · have := hk.size; simp; omega
  · exact setCell_other (hk.heap h.wv (hlv _ (by omega) (by omega))) _ _ (by omega)
  · exact setCell_other (hk.heap h.kn (hlv _ (by omega) (by omega))) _ _ (by omega)
  · rw [setCell_blk (hk.heap h.li (hlv _ (by omega) (by omega)))]; rfl
  · exact setCell_other (hk.heap h.co (hlv _ (by omega) (by omega))) _ _ (by omega)
  · rw [List.length_append, List.length_singleton]
    exact hk2.row ho (fun g hg e => by have := hv5 g hg; omega)
  · intro k y wd hy hwd
    have hlen : vals.length = L.length := by have := h.lo.1; omega
    by_cases hlt : k < vals.length
    · rw [List.getElem?_append_left hlt] at hy
      rw [List.getElem?_append_left (by omega)] at hwd
      obtain ⟨h1, h2⟩ := h.words k y wd hy hwd
      exact ⟨u8keep _ _ _ h1, h2⟩
    · have hk3 : k = vals.length := by
        have := (List.getElem?_eq_some_iff.1 hy).1
        simp at this; omega
      subst hk3
      rw [List.getElem?_append_right (Nat.le_refl _), Nat.sub_self] at hy
      rw [List.getElem?_append_right (by omega), hlen, Nat.sub_self] at hwd
      cases hy; cases hwd
      exact ⟨u8keep _ _ _ hx, hxv⟩
end

/-- the memory of 'Coded' behind its declarations -/
theorem Enc.start (w : World) : Enc w.heap.size [] 258 0 [] (.slice none 0 0) (.slice (some ⟨w.heap.size + 3, 0, none⟩) 0 0) []
    ((((((w.alloc (Obj.cells #[Value.slice none 0 0, Value.int IntKind.i64 0] 42)).alloc (Obj.cells #[Value.pointer (some { block := w.heap.size, off := 0 })] 40)).alloc (Obj.cells #[Value.int IntKind.i64 258] 3)).alloc
      (Obj.cells #[] 22)).alloc (Obj.cells #[Value.slice (some { block := w.heap.size + 1 + 1 + 1, off := 0 }) 0 0] 43)).alloc (Obj.cells #[Value.int IntKind.i64 0] 3)) := by
  generalize ho1 : Obj.cells #[Value.slice none 0 0, Value.int IntKind.i64 0] 42 = o1
  generalize ho2 : Obj.cells #[Value.pointer (some { block := w.heap.size, off := 0 })] 40 = o2
  generalize ho3 : Obj.cells #[Value.int IntKind.i64 258] 3 = o3
  generalize ho4 : Obj.cells #[] 22 = o4
  generalize ho5 : Obj.cells #[Value.slice (some { block := w.heap.size + 1 + 1 + 1, off := 0 }) 0 0] 43 = o5
  generalize ho6 : Obj.cells #[Value.int IntKind.i64 0] 3 = o6
  have s1 : (w.alloc o1).heap.size = w.heap.size + 1 := by simp
  have s2 : ((w.alloc o1).alloc o2).heap.size = w.heap.size + 2 := by simp
  have s3 : (((w.alloc o1).alloc o2).alloc o3).heap.size = w.heap.size + 3 := by simp
  have s4 : ((((w.alloc o1).alloc o2).alloc o3).alloc o4).heap.size = w.heap.size + 4 := by simp
  have s5 : (((((w.alloc o1).alloc o2).alloc o3).alloc o4).alloc o5).heap.size = w.heap.size + 5 := by simp
  have n1 := heap_alloc_new w o1
  have n2 := heap_alloc_new (w.alloc o1) o2
  have n3 := heap_alloc_new ((w.alloc o1).alloc o2) o3
  have n4 := heap_alloc_new (((w.alloc o1).alloc o2).alloc o3) o4
  have n5 := heap_alloc_new ((((w.alloc o1).alloc o2).alloc o3).alloc o4) o5
  have n6 := heap_alloc_new (((((w.alloc o1).alloc o2).alloc o3).alloc o4).alloc o5) o6
  rw [s1] at n2
  rw [s2] at n3
  rw [s3] at n4
  rw [s4] at n5
  rw [s5] at n6
  have b4 := alloc_old o6 (alloc_old o5 n4)
  refine ⟨⟨?_, World.ownsRow_nil _ _ _ _, by omega, by simp⟩, ?_, ?_, ?_, ?_, ?_, ?_, ?_⟩
  · rw [alloc_old o6 (alloc_old o5 (alloc_old o4 (alloc_old o3 (alloc_old o2 n1)))), ← ho1]; rfl
  · rw [alloc_old o6 (alloc_old o5 (alloc_old o4 (alloc_old o3 n2))), ← ho2]
  · rw [alloc_old o6 (alloc_old o5 (alloc_old o4 n3)), ← ho3]; rfl
  · rw [alloc_old o6 n5, ← ho5]
  · rw [n6, ← ho6]; rfl
  · refine ⟨rfl, .inr ⟨w.heap.size + 3, 0, #[], rfl, Nat.le_refl _, by rw [b4, ← ho4], Nat.le_refl _, by decide, rfl, rfl⟩⟩
  · intro g hg; simp [Value.ownBlock] at hg; omega
  · intro k x word hx; simp at hx

/-! ### the outer loop's relation -/
theorem owns_form {w : World} {base n : Nat} {e : TypeId} {v : Value} {xs : List Value} (h : w.ownsRow base e 1 v n xs) : ∃ p cap, v = .slice p n cap := by
  rcases h.2 with ⟨h1, rfl⟩ | ⟨g, cap, cur, rfl, _⟩
  · exact ⟨_, _, h1⟩
  · exact ⟨_, _, rfl⟩
theorem listOf_length (D : List (List Nat)) (last : Option (Nat × List Nat)) (d : List Nat) : (listOf D last d).length ≤ D.length + 1 := by
  unfold listOf
  split <;> simp
theorem u8v_one (l : List Nat) : ∀ u ∈ u8v l, u.oneCell' = true := by
  intro u hu
  simp only [u8v, List.mem_map] at hu
  obtain ⟨x, _, rfl⟩ := hu
  rfl
theorem Found.bounds {L : List (List Nat)} {d : List Nat} {c n : Nat} (h : Found L d c n) (hL : ∀ u ∈ L, u ≠ []) (hd : d ≠ []) {m : Nat} (hm : d.length = m) : 1 ≤ n ∧ n ≤ m := by
  have h0 : 0 < d.length := List.length_pos_iff.2 hd
  cases h with
  | one => omega
  | word k w hk hw hl =>
    have := List.length_pos_iff.2 (hL w (List.mem_of_getElem? hk))
    omega
/-- a slice that holds the bytes d, in memory that lay there before H -/
def SrcAt (H : Nat) (w : World) (dv : Value) (d : List Nat) : Prop :=
  ∃ p cap, dv = .slice p d.length cap ∧ d.length ≤ cap ∧ (d ≠ [] → ∃ b off, p = some ⟨b, off, none⟩ ∧ b < H ∧ ∀ i x, d[i]? = some x → w.cell? ⟨b, off + i, none⟩ = some (.int .u8 (x : Nat)))
structure CR (H : Nat) (w0 : World) (data d : List Nat) (bs : List Bool) (D : List (List Nat)) (last : Option (Nat × List Nat)) (count : Nat) (v lv : Value) (vals : List Value) (wr : World) : Prop where
  enc : Enc H bs (258 + D.length) count (listOf D last d) v lv vals wr
  blw : Below H w0 wr
  cont : ∃ x, data = x ++ d ∧ Cont bs x D last ∧ bs.length ≤ 9 + 24 * x.length ∧ count ≤ x.length
  cnt : last = none ↔ count = 0
  d0 : last = none → D = []
  ne : ∀ lc lw, last = some (lc, lw) → lw ≠ []
  few : D.length + 258 ≤ 4092
  wb : ∀ u ∈ listOf D last d, u ≠ [] ∧ ∀ b ∈ u, b < 256
def CRel (H : Nat) (w0 : World) (data d : List Nat) (wr : World) : Prop := ∃ bs D last count v lv vals, CR H w0 data d bs D last count v lv vals wr
def CodedPost (data : List Nat) (w : World) (e : Ending) (w' : World) : Prop :=
  ∃ ov bs, e = .returned ov ∧ Below w.heap.size w w' ∧ w'.ownsRow (w.heap.size + 6) 5 1 ov ((bs.length + 7) / 8) (u8v (pack bs ((bs.length + 7) / 8))) ∧ (∀ pad, Str [] none (bs ++ pad) data) ∧ bs.length ≤ 200000

/-! ### what a round does to the codes -/
/-- the plain part of the relation -/
structure CP (data d : List Nat) (bs : List Bool) (D : List (List Nat)) (last : Option (Nat × List Nat)) (count : Nat) : Prop where
  cont : ∃ x, data = x ++ d ∧ Cont bs x D last ∧ bs.length ≤ 9 + 24 * x.length ∧ count ≤ x.length
  cnt : last = none ↔ count = 0
  d0 : last = none → D = []
  ne : ∀ lc lw, last = some (lc, lw) → lw ≠ []
  few : D.length + 258 ≤ 4092
  wb : ∀ u ∈ listOf D last d, u ≠ [] ∧ ∀ b ∈ u, b < 256
theorem CR.plain {H : Nat} {w0 : World} {data d : List Nat} {bs : List Bool} {D : List (List Nat)} {last : Option (Nat × List Nat)} {count : Nat} {v lv : Value} {vals : List Value} {wr : World}
    (h : CR H w0 data d bs D last count v lv vals wr) : CP data d bs D last count := ⟨h.cont, h.cnt, h.d0, h.ne, h.few, h.wb⟩
/-- the state behind a code -/
structure CN (data d2 : List Nat) (bs2 : List Bool) (D2 : List (List Nat)) (c count2 : Nat) (wd : List Nat) : Prop where
  cont : ∃ x, data = x ++ d2 ∧ Cont bs2 x D2 (some (c, wd)) ∧ bs2.length + 12 ≤ 9 + 24 * x.length ∧ count2 ≤ x.length
  pos : 0 < count2
  ne : wd ≠ []
  few : D2.length + 258 ≤ 4093
  wb : ∀ u ∈ listOf D2 (some (c, wd)) d2, u ≠ [] ∧ ∀ b ∈ u, b < 256
theorem CP.next {data d : List Nat} {bs : List Bool} {D : List (List Nat)} {last : Option (Nat × List Nat)} {count c n : Nat} (h : CP data d bs D last count) (hd : d ≠ []) (hb : ∀ b ∈ data, b < 256)
    (hf : Found (listOf D last d) d c n) : CN data (d.drop n) (bs ++ msb c (lw (258 + D.length))) (ext D last (d.take n)) c (count + 1) (d.take n) ∧ ext D last (d.take n) = listOf D last d := by
  obtain ⟨x, hx, hc, hbl, hcx⟩ := h.cont
  have hbd : ∀ b ∈ d, b < 256 := fun b hb2 => hb b (by rw [hx]; exact List.mem_append_right _ hb2)
  have hn := hf.bounds (fun u hu => (h.wb u hu).1) hd rfl
  have hv := hf.valid hd hbd h.ne
  have hlen : (d.take n).length = n := by rw [List.length_take]; omega
  have hne : d.take n ≠ [] := fun e => by rw [e] at hlen; simp at hlen; omega
  have hhead : (d.take n).headD 0 = d.headD 0 := by
    cases d with
    | nil => exact absurd rfl hd
    | cons a d =>
      obtain ⟨n', rfl⟩ : ∃ n', n = n' + 1 := ⟨n - 1, by omega⟩
      rfl
  have hext := listOf_ext D last d (d.take n) hd hhead
  have hfew : (ext D last (d.take n)).length + 258 ≤ 4093 := by
    have := listOf_length D last d
    have := h.few
    rw [hext]; omega
  refine ⟨⟨⟨x ++ d.take n, by rw [List.append_assoc, List.take_append_drop, hx], hc.code hv hfew, ?_, ?_⟩, by omega, hne, hfew, ?_⟩, hext⟩
  · rw [List.length_append, List.length_append, msb_length, hlen]
    have := lw_le (258 + D.length)
    omega
  · rw [List.length_append, hlen]; omega
  · intro u hu
    rw [hext] at hu
    cases hd2 : d.drop n with
    | nil => rw [hd2] at hu; exact h.wb u hu
    | cons y d3 =>
      rw [hd2] at hu
      simp only [listOf] at hu
      rcases List.mem_append.1 hu with hu | hu
      · exact h.wb u hu
      · rw [List.mem_singleton] at hu
        subst hu
        refine ⟨by simp, fun b hb2 => ?_⟩
        rcases List.mem_append.1 hb2 with hb2 | hb2
        · exact hbd b (List.mem_of_mem_take hb2)
        · rw [List.mem_singleton] at hb2
          subst hb2
          exact hbd b (List.mem_of_mem_drop (by rw [hd2]; simp))
theorem CN.stay {data d2 : List Nat} {bs2 : List Bool} {D2 : List (List Nat)} {c count2 : Nat} {wd : List Nat} (h : CN data d2 bs2 D2 c count2 wd) (hk : ¬ 4093 ≤ 258 + D2.length) : CP data d2 bs2 D2 (some (c, wd)) count2 := by
  obtain ⟨x, hx, hc, hbl, hcx⟩ := h.cont
  exact ⟨⟨x, hx, hc, by omega, hcx⟩, ⟨fun e => (by cases e), fun e => (by have := h.pos; omega)⟩, fun e => (by cases e), fun lc lw0 e => (by cases e; exact h.ne), by have := h.few; omega, h.wb⟩
theorem CN.clear {data d2 : List Nat} {bs2 : List Bool} {D2 : List (List Nat)} {c count2 : Nat} {wd : List Nat} (h : CN data d2 bs2 D2 c count2 wd) : CP data d2 (bs2 ++ msb 256 (lw (258 + D2.length))) [] none 0 := by
  obtain ⟨x, hx, hc, hbl, hcx⟩ := h.cont
  refine ⟨⟨x, hx, hc.clear, ?_, Nat.zero_le _⟩, ⟨fun _ => rfl, fun _ => rfl⟩, fun _ => rfl, fun lc lw0 e => (by cases e), by simp, fun u hu => (by simp [listOf] at hu)⟩
  rw [List.length_append, msb_length]
  have := lw_le (258 + D2.length)
  omega
theorem CP.start (data : List Nat) : CP data data (msb 256 (lw 258)) [] none 0 := by
  have h := Cont.clear Cont.start
  refine ⟨⟨[], rfl, h, ?_, Nat.le_refl _⟩, ⟨fun _ => rfl, fun _ => rfl⟩, fun _ => rfl, fun lc lw0 e => (by cases e), by simp, fun u hu => (by simp [listOf] at hu)⟩
  simp [lw]
theorem CP.eof {data : List Nat} {bs : List Bool} {D : List (List Nat)} {last : Option (Nat × List Nat)} {count : Nat} (h : CP data [] bs D last count) (hd : data.length ≤ 5000) :
    (∀ pad, Str [] none (bs ++ msb 257 (lw (258 + D.length)) ++ pad) data) ∧ (bs ++ msb 257 (lw (258 + D.length))).length ≤ 200000 := by
  obtain ⟨x, hx, hc, hbl, hcx⟩ := h.cont
  rw [List.append_nil] at hx
  subst hx
  refine ⟨fun pad => hc.eof pad, ?_⟩
  rw [List.length_append, msb_length]
  have := lw_le (258 + D.length)
  omega
end Go.Proofs.YtgghadfelagghaaDoor

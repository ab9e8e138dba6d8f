/-
  append onto a slice that the call itself made (elements of one cell), with what the kit's law leaves unsaid: the result lies in the old array or in a new block.
  Conditions: those of the kit's law on append.
-/
import Derived.Test.YtgghadfelagghaaDoorMem
namespace Go.Proofs.YtgghadfelagghaaDoor
open Go Go.RowKit

theorem owns_slice {w : World} {base n : Nat} {e : TypeId} {v : Value} {xs : List Value} (h : w.ownsRow base e 1 v n xs) (hn : 0 < n) :
    ∃ g cap, v = .slice (some ⟨g, 0, none⟩) n cap ∧ base ≤ g ∧ g < w.heap.size := by
  rcases h.2 with ⟨_, h0⟩ | ⟨g, cap, cur, rfl, hb, hg, _⟩
  · omega
  · exact ⟨g, cap, rfl, hb, lt_blk hg⟩
theorem cell_new1 (w : World) (x : Value) (t : TypeId) : ∀ j u, [x][j]? = some u → (w.alloc (.cells #[x] t)).cell? ((⟨w.heap.size, 0, none⟩ : Addr).add j) = some u := by
  intro j u h
  cases j with
  | zero =>
    have e : ((⟨w.heap.size, 0, none⟩ : Addr).add 0) = ⟨w.heap.size, 0, none⟩ := by simp [Addr.add]
    rw [e, cell_blk (heap_alloc_new w _)]
    simpa using h
  | succ j => simp at h
theorem ok_inj {α : Type} {a b : α} {w w' : World} (h : Result.ok a w = Result.ok b w') : a = b ∧ w = w' := by cases h; exact ⟨rfl, rfl⟩

section
variable {P : Program} (w : World)
theorem run_append_fresh (base : Nat) (t ty e : TypeId) (i : TypeInfo) (z : Value) (bytes : Nat) (ht : P.underlying t = some (.slice e)) (hi : P.info? e = some i) (hz : i.zero = some z)
    (hsize : i.size = 1) (hby : i.bytes = bytes) (hzs : z.cells.size = 1) (v : Value) (n : Nat) (xs : List Value) (hown : w.ownsRow base e 1 v n xs)
    (a : Addr) (m c : Nat) (news : List Value) (hl : news.length = m) (hnews : ∀ j u, news[j]? = some u → w.cell? (a.add j) = some u) (h1 : ∀ u ∈ news, u.oneCell' = true)
    (h63 : n + m ≤ maxLen) (hbytes : (n + m) * bytes ≤ 140737488355328) (hbase : base ≤ w.heap.size) :
    ∃ v' w', (Builtin.append_ #[t, t] ty #[v, .slice (some a) m c]).run P w = .ok v' w' ∧ w'.ownsRow base e 1 v' (n + m) (xs ++ news) ∧ Kp (fun k => v.ownBlock = some k) w w' ∧
      (∀ g, v'.ownBlock = some g → v.ownBlock = some g ∨ w.heap.size ≤ g) := by
  have hlm : news.length = m * i.size := by rw [hsize]; omega
  obtain ⟨v', w', hr, ho, hg, _⟩ := run_append_own (P := P) w base t ty e i z 1 bytes ht hi hz hsize hby hzs (by omega) v n xs hown a m c news (by omega) hnews h1 h63 hbytes hbase
  refine ⟨v', w', hr, ho, (Kp.refl _ w).grown hg (fun k hk => .inl hk), ?_⟩
  have h63' : ((n + m : Nat) : Int) ≤ 9223372036854775807 := by simp only [maxLen] at h63; omega
  have hb2 : (n + m) * i.bytes ≤ 140737488355328 := by rw [hby]; exact hbytes
  rcases hown.2 with ⟨rfl, rfl⟩ | ⟨g, cap, cur, rfl, hbg, hgg, hnc, hcm, hcs, htake⟩
  · by_cases h0 : m = 0
    · subst h0
      intro g hgo
      rcases ho.2 with ⟨e0, _⟩ | ⟨g', cap', cur', e0, _, hg', hle, _, hcs', _⟩
      · subst e0; simp [Value.ownBlock] at hgo
      · subst e0
        obtain rfl : news = [] := List.eq_nil_of_length_eq_zero hl
        have h2 : (Builtin.append_ #[t, t] ty #[.slice none 0 0, .slice (some a) 0 c]).run P w = .ok (.slice none 0 0) w := by
          simp [Builtin.append_, run_underlying ht, sizeOf, typeInfo, hi, Builtin.lenOf, Builtin.firstCells, loadCells, loadCellsFrom]
        rw [h2] at hr
        obtain ⟨hx, _⟩ := ok_inj hr
        cases hx
    · have h2 := run_append_nil (P := P) w t ty e i z ht hi hz a m c news hlm hnews (by omega) (by omega) (by simp only [Nat.zero_add] at hb2; omega)
      rw [h2] at hr
      obtain ⟨rfl, _⟩ := ok_inj hr
      intro g hgo
      simp only [Value.ownBlock, Option.some.injEq] at hgo
      exact .inr (by omega)
  · by_cases hroom : n + m ≤ cap
    · have hfit : n * i.size + news.length ≤ cur.size := by rw [hsize, hl, hcs]; omega
      have h2 := run_append_room (P := P) w t ty e i ht hi g n cap cur hgg a m c news hlm hnews h1 hroom hfit
      rw [h2] at hr
      obtain ⟨rfl, _⟩ := ok_inj hr
      intro g' hgo
      exact .inl hgo
    · have h2 := run_append_grow (P := P) w t ty e i z ht hi hz ⟨g, 0, none⟩ n cap xs (by rw [hsize]; exact hown.1) (hown.cells (g := g) rfl) a m c news hlm hnews (by omega) h63' (growslice_fits (by omega) hb2)
      rw [h2] at hr
      obtain ⟨rfl, _⟩ := ok_inj hr
      intro g' hgo
      simp only [Value.ownBlock, Option.some.injEq] at hgo
      exact .inr (by omega)
/-- the law for the walk -/
theorem wpList_append_fresh {ops : Array Oper} {rest : List Oper} {o : Oper} {a : Act} {Q : Exit → Act → World → Prop} (hgd : o.guard = none) (s x : Operand) (t : TypeId)
    (ho : o.op = .call { callee := .builtin .append, args := #[s, x], argTypes := #[t, t] })
    (base : Nat) (e : TypeId) (i : TypeInfo) (z : Value) (bytes : Nat) (ht : P.underlying t = some (.slice e)) (hi : P.info? e = some i) (hz : i.zero = some z)
    (hsize : i.size = 1) (hby : i.bytes = bytes) (hzs : z.cells.size = 1)
    (v : Value) (n : Nat) (xs : List Value) (hs : a.eval s = v) (hown : w.ownsRow base e 1 v n xs)
    (ad : Addr) (m c : Nat) (news : List Value) (hx : a.eval x = .slice (some ad) m c) (hl : news.length = m) (hnews : ∀ j u, news[j]? = some u → w.cell? (ad.add j) = some u) (h1 : ∀ u ∈ news, u.oneCell' = true)
    (h63 : n + m ≤ maxLen) (hbytes : (n + m) * bytes ≤ 140737488355328) (hbase : base ≤ w.heap.size)
    (h : ∀ v' w', w'.ownsRow base e 1 v' (n + m) (xs ++ news) → Kp (fun k => v.ownBlock = some k) w w' → (∀ g, v'.ownBlock = some g → v.ownBlock = some g ∨ w.heap.size ≤ g) → wpList P ops Q rest (a.put o.dst v') w') :
    wpList P ops Q (o :: rest) a w := by
  refine wpList_plain hgd fun K hK => ?_
  obtain ⟨v', w', hr, h2, h3, h4⟩ := run_append_fresh (P := P) w base t o.type e i z bytes ht hi hz hsize hby hzs v n xs hown ad m c news hl hnews h1 h63 hbytes hbase
  unfold Oper.wp execOp
  simp only [ho, resolve, invoke, builtin, Sem.run_bind, Sem.run_pure, Result.andThen_ok, List.map_toArray, List.map_cons, List.map_nil, hs, hx, hr]
  exact hK _ _ (h v' w' h2 h3 h4)
end
end Go.Proofs.YtgghadfelagghaaDoor

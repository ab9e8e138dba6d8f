/-
  The codes of TIFF's LZW as a relation, and what a writer and a reader of them keep true. 'Str D last B l': a reader that knows the words D (of the codes 258, 259, ..) and has just seen 'last' makes the bytes l of the bits B and then meets the end.
  Conditions: none but those that each lemma names.
-/
import Derived.Test.YtgghadfelagghaaDoorPure
namespace Go.Proofs.YtgghadfelagghaaDoor

/-- which word a code may tell -/
inductive Valid (D : List (List Nat)) (last : Option (Nat × List Nat)) : Nat → List Nat → Prop
  | lit (c : Nat) (h : c < 256) : Valid D last c [c]
  | dict (k : Nat) (w : List Nat) (h : D[k]? = some w) : Valid D last (258 + k) w
  | same (lc : Nat) (lw : List Nat) (h : last = some (lc, lw)) : Valid D last (258 + D.length) (lw ++ [lw.headD 0])

/-- the words that are known behind a word -/
def ext (D : List (List Nat)) (last : Option (Nat × List Nat)) (w : List Nat) : List (List Nat) :=
  match last with
  | none => D
  | some (_, lw) => D ++ [lw ++ [w.headD 0]]

inductive Str : List (List Nat) → Option (Nat × List Nat) → List Bool → List Nat → Prop
  | eof (D : List (List Nat)) (last : Option (Nat × List Nat)) (pad : List Bool) : Str D last (msb 257 (lw (258 + D.length)) ++ pad) []
  | clr (D : List (List Nat)) (last : Option (Nat × List Nat)) (B : List Bool) (l : List Nat) (h : Str [] none B l) : Str D last (msb 256 (lw (258 + D.length)) ++ B) l
  | code (D : List (List Nat)) (last : Option (Nat × List Nat)) (c : Nat) (w : List Nat) (B : List Bool) (l : List Nat) (hv : Valid D last c w)
      (hs : (ext D last w).length + 258 ≤ 4093) (h : Str (ext D last w) (some (c, w)) B l) : Str D last (msb c (lw (258 + D.length)) ++ B) (w ++ l)

/-! ### the writer -/
/-- the bits B0 have been put, for the bytes x; D, last is what a reader knows then -/
def Cont (B0 : List Bool) (x : List Nat) (D : List (List Nat)) (last : Option (Nat × List Nat)) : Prop :=
  ∀ B l, Str D last B l → Str [] none (B0 ++ B) (x ++ l)
theorem Cont.start : Cont [] [] [] none := fun _ _ h => h
theorem Cont.clear {B0 : List Bool} {x : List Nat} {D : List (List Nat)} {last : Option (Nat × List Nat)} (h : Cont B0 x D last) :
    Cont (B0 ++ msb 256 (lw (258 + D.length))) x [] none := fun B l hs => by
  rw [List.append_assoc]; exact h _ _ (.clr D last B l hs)
theorem Cont.code {B0 : List Bool} {x : List Nat} {D : List (List Nat)} {last : Option (Nat × List Nat)} (h : Cont B0 x D last) {c : Nat} {w : List Nat} (hv : Valid D last c w)
    (hs : (ext D last w).length + 258 ≤ 4093) : Cont (B0 ++ msb c (lw (258 + D.length))) (x ++ w) (ext D last w) (some (c, w)) := fun B l h' => by
  rw [List.append_assoc, List.append_assoc]; exact h _ _ (.code D last c w B l hv hs h')
theorem Cont.eof {B0 : List Bool} {x : List Nat} {D : List (List Nat)} {last : Option (Nat × List Nat)} (h : Cont B0 x D last) (pad : List Bool) :
    Str [] none (B0 ++ msb 257 (lw (258 + D.length)) ++ pad) x := by
  have := h _ _ (.eof D last pad)
  rw [List.append_nil, ← List.append_assoc] at this
  exact this

/-- the writer's list at the head of a round, the bytes d being left -/
def listOf (D : List (List Nat)) (last : Option (Nat × List Nat)) (d : List Nat) : List (List Nat) :=
  match last, d with
  | some (_, lw), b :: _ => D ++ [lw ++ [b]]
  | _, _ => D
theorem listOf_ext (D : List (List Nat)) (last : Option (Nat × List Nat)) (d w : List Nat) (hd : d ≠ []) (hw : w.headD 0 = d.headD 0) : ext D last w = listOf D last d := by
  cases d with
  | nil => exact absurd rfl hd
  | cons b d =>
    cases last with
    | none => rfl
    | some p =>
      obtain ⟨lc, lw⟩ := p
      show D ++ [lw ++ [w.headD 0]] = D ++ [lw ++ [b]]
      rw [hw]; rfl
/-- what the writer's search may find: the first byte, or a word of the list that the bytes begin with -/
inductive Found (L : List (List Nat)) (d : List Nat) : Nat → Nat → Prop
  | one : Found L d (d.headD 0) 1
  | word (k : Nat) (w : List Nat) (h : L[k]? = some w) (hw : d.take w.length = w) (hl : w.length ≤ d.length) : Found L d (258 + k) w.length
theorem Found.valid {D : List (List Nat)} {last : Option (Nat × List Nat)} {d : List Nat} {c n : Nat} (h : Found (listOf D last d) d c n) (hd : d ≠ []) (hb : ∀ b ∈ d, b < 256)
    (hne : ∀ lc lw, last = some (lc, lw) → lw ≠ []) : Valid D last c (d.take n) := by
  cases d with
  | nil => exact absurd rfl hd
  | cons b d =>
    cases h with
    | one => exact .lit b (hb b (by simp))
    | word k w h hw hl =>
      rw [hw]
      cases last with
      | none => exact .dict k w h
      | some p =>
        obtain ⟨lc, lw⟩ := p
        simp only [listOf] at h
        by_cases hk : k < D.length
        · rw [List.getElem?_append_left hk] at h; exact .dict k w h
        · have hk2 : k = D.length := by
            have := (List.getElem?_eq_some_iff.1 h).1
            simp at this; omega
          subst hk2
          rw [List.getElem?_append_right (Nat.le_refl _)] at h
          simp at h
          subst h
          have hlw := hne lc lw rfl
          cases lw with
          | nil => exact absurd rfl hlw
          | cons y ys =>
            have hby : y = b := by
              have := congrArg (fun l => l.headD 0) hw
              simp at this
              exact this.symm
            subst hby
            exact .same lc (y :: ys) rfl

/-! ### the reader's table -/
inductive Tab (suf pre : Nat → Nat) (m : Nat) : Nat → List Nat → Prop
  | lit (c : Nat) (h : c < 256) : Tab suf pre m c [c]
  | ent (c : Nat) (w : List Nat) (h : 258 ≤ c) (hm : c < m) (hp : pre c < c) (hw : Tab suf pre m (pre c) w) : Tab suf pre m c (w ++ [suf c])
theorem Tab.mono {suf pre suf' pre' : Nat → Nat} {m m' : Nat} {c : Nat} {w : List Nat} (h : Tab suf pre m c w) (hm : m ≤ m') (he : ∀ i, i < m → suf' i = suf i ∧ pre' i = pre i) : Tab suf' pre' m' c w := by
  induction h with
  | lit c h => exact .lit c h
  | ent c w h hcm hp _ ih =>
    rw [← (he c hcm).1]
    have e := (he c hcm).2
    exact .ent c w h (by omega) (by rw [e]; exact hp) (by rw [e]; exact ih)
theorem Tab.ne {suf pre : Nat → Nat} {m c : Nat} {w : List Nat} (h : Tab suf pre m c w) : w ≠ [] := by
  cases h <;> simp
theorem Tab.code {suf pre : Nat → Nat} {m c : Nat} {w : List Nat} (h : Tab suf pre m c w) : c < 256 ∨ 258 ≤ c ∧ c < m := by
  cases h
  · left; assumption
  · right; exact ⟨by assumption, by assumption⟩
theorem Tab.len {suf pre : Nat → Nat} {m c : Nat} {w : List Nat} (h : Tab suf pre m c w) : (c < 256 → w.length = 1) ∧ (256 ≤ c → w.length + 256 ≤ c) := by
  induction h with
  | lit c h => exact ⟨fun _ => rfl, fun _ => by omega⟩
  | ent c w h hcm hp hw ih =>
    refine ⟨fun _ => by omega, fun _ => ?_⟩
    rw [List.length_append, List.length_singleton]
    by_cases hc : pre c < 256
    · have := ih.1 hc; omega
    · have := ih.2 (by omega); omega
theorem Tab.len_le {suf pre : Nat → Nat} {m c : Nat} {w : List Nat} (h : Tab suf pre m c w) (hm : m ≤ 4093) : 1 ≤ w.length ∧ w.length ≤ 3836 := by
  have h0 := h.len
  have h1 := h.code
  have h2 : 0 < w.length := List.length_pos_iff.2 h.ne
  rcases h1 with h1 | h1
  · have := h0.1 h1; omega
  · have := h0.2 (by omega); omega

structure DInv (suf pre : Nat → Nat) (D : List (List Nat)) (last : Option (Nat × List Nat)) : Prop where
  words : ∀ k w, D[k]? = some w → Tab suf pre (258 + D.length) (258 + k) w
  seen : ∀ lc lw, last = some (lc, lw) → Tab suf pre (258 + D.length) lc lw
  fresh : last = .none → D = []
theorem DInv.start (suf pre : Nat → Nat) : DInv suf pre [] none := ⟨(fun k w h => by simp at h), (fun _ _ h => by cases h), (fun _ => rfl)⟩
def upd (f : Nat → Nat) (i v : Nat) : Nat → Nat := fun j => if j = i then v else f j
theorem upd_self (f : Nat → Nat) (i v : Nat) : upd f i v i = v := by simp [upd]
theorem upd_other (f : Nat → Nat) (i v j : Nat) (h : j ≠ i) : upd f i v j = f j := by simp [upd, h]
theorem ext_none (D : List (List Nat)) (w : List Nat) : ext D none w = D := rfl
theorem ext_some (D : List (List Nat)) (lc : Nat) (lw w : List Nat) : ext D (some (lc, lw)) w = D ++ [lw ++ [w.headD 0]] := rfl
/-- a code behind none: a byte that stands as it is -/
theorem Valid.of_none {c : Nat} {w : List Nat} (h : Valid [] none c w) : c < 256 ∧ w = [c] := by
  cases h with
  | lit _ h => exact ⟨h, rfl⟩
  | dict k w h => simp at h
  | same _ _ h => cases h
theorem DInv.first {suf pre : Nat → Nat} {c : Nat} (h : c < 256) : DInv suf pre [] (some (c, [c])) :=
  ⟨(fun k w h => by simp at h), (fun lc lw e => by cases e; exact .lit c h), (fun h => by cases h)⟩
theorem head_append (a b : List Nat) (h : a ≠ []) : (a ++ b).headD 0 = a.headD 0 := by
  cases a with
  | nil => exact absurd rfl h
  | cons x a => rfl
theorem DInv.next {suf pre : Nat → Nat} {D : List (List Nat)} {lc : Nat} {lw : List Nat} (h : DInv suf pre D (some (lc, lw))) {c : Nat} {w : List Nat} (hv : Valid D (some (lc, lw)) c w) :
    DInv (upd suf (258 + D.length) (w.headD 0)) (upd pre (258 + D.length) lc) (D ++ [lw ++ [w.headD 0]]) (some (c, w)) := by
  have hl := h.seen lc lw rfl
  have hlc := hl.code
  have keep : ∀ i, i < 258 + D.length → upd suf (258 + D.length) (w.headD 0) i = suf i ∧ upd pre (258 + D.length) lc i = pre i := fun i hi =>
    ⟨upd_other _ _ _ _ (by omega), upd_other _ _ _ _ (by omega)⟩
  have hlen : (D ++ [lw ++ [w.headD 0]]).length = D.length + 1 := by simp
  have hm : 258 + D.length ≤ 258 + (D ++ [lw ++ [w.headD 0]]).length := by rw [hlen]; omega
  have hnew : Tab (upd suf (258 + D.length) (w.headD 0)) (upd pre (258 + D.length) lc) (258 + (D ++ [lw ++ [w.headD 0]]).length) (258 + D.length) (lw ++ [w.headD 0]) := by
    have e := upd_self suf (258 + D.length) (w.headD 0)
    have e2 := upd_self pre (258 + D.length) lc
    have := Tab.ent (suf := upd suf (258 + D.length) (w.headD 0)) (pre := upd pre (258 + D.length) lc) (m := 258 + (D ++ [lw ++ [w.headD 0]]).length) (258 + D.length) lw (by omega) (by rw [hlen]; omega) (by rw [e2]; omega) (by rw [e2]; exact hl.mono hm keep)
    rw [e] at this
    exact this
  refine ⟨fun k w' hk => ?_, fun lc' lw' e => ?_, fun e => by cases e⟩
  · by_cases hlt : k < D.length
    · rw [List.getElem?_append_left hlt] at hk
      exact (h.words k w' hk).mono hm keep
    · have hk2 : k = D.length := by
        have := (List.getElem?_eq_some_iff.1 hk).1
        rw [hlen] at this; omega
      subst hk2
      rw [List.getElem?_append_right (Nat.le_refl _), Nat.sub_self] at hk
      have hk3 : lw ++ [w.headD 0] = w' := Option.some.inj hk
      rw [← hk3]
      exact hnew
  · cases e
    cases hv with
    | lit _ h => exact .lit _ h
    | dict k w hk => exact (h.words k w hk).mono hm keep
    | same lc2 lw2 h2 =>
      cases h2
      have e := head_append lw [lw.headD 0] hl.ne
      rw [e] at hnew ⊢
      exact hnew
end Go.Proofs.YtgghadfelagghaaDoor

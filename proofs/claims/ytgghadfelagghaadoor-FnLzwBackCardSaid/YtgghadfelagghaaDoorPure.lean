/-
  Plain facts on bits and on the codes of TIFF's LZW: no program and no memory in it. Bits of numbers, highest first; bytes packed out of bits; what a reader of codes that knows a table makes of bits ('Str'); a table of suffixes and prefixes that tells words ('Tab').
  Conditions: none but those that each lemma names.
-/
namespace Go.Proofs.YtgghadfelagghaaDoor

/-! ### widths -/
def lw (k : Nat) : Nat := if k < 511 then 9 else if k < 1023 then 10 else if k < 2047 then 11 else 12
theorem lw_ge (k : Nat) : 9 ≤ lw k := by unfold lw; split <;> (try split) <;> (try split) <;> omega
theorem lw_le (k : Nat) : lw k ≤ 12 := by unfold lw; split <;> (try split) <;> (try split) <;> omega
theorem lw_small (k : Nat) (h : k < 511) : lw k = 9 := by unfold lw; rw [if_pos h]

/-! ### bits of a number, the highest first -/
def msb (v n : Nat) : List Bool := (List.range n).map fun i => v.testBit (n - 1 - i)
@[simp] theorem msb_length (v n : Nat) : (msb v n).length = n := by simp [msb]
theorem msb_take (v n j : Nat) (h : j < n) : (msb v n).take (j + 1) = (msb v n).take j ++ [v.testBit (n - 1 - j)] := by
  rw [List.take_succ_eq_append_getElem (by simpa using h)]
  simp [msb]
theorem msb_succ (v n : Nat) : msb v (n + 1) = v.testBit n :: msb v n := by
  unfold msb
  rw [List.range_succ_eq_map]
  simp only [List.map_cons, List.map_map, Nat.add_sub_cancel, Nat.sub_zero]
  congr 1
  apply List.map_congr_left
  intro i _
  simp only [Function.comp]
  congr 1
  omega

/-- the number of bits, the highest first -/
def val : List Bool → Nat
  | [] => 0
  | b :: l => b.toNat * 2 ^ l.length + val l
theorem val_lt (l : List Bool) : val l < 2 ^ l.length := by
  induction l with
  | nil => simp [val]
  | cons b l ih =>
    simp only [val, List.length_cons, Nat.pow_succ]
    cases b <;> simp <;> omega
theorem val_append (a b : List Bool) : val (a ++ b) = val a * 2 ^ b.length + val b := by
  induction a with
  | nil => simp [val]
  | cons x a ih =>
    simp only [List.cons_append, val, List.length_append, ih, Nat.pow_add, Nat.add_mul]
    rw [Nat.mul_assoc]
    omega
theorem val_msb (v n : Nat) : val (msb v n) = v % 2 ^ n := by
  induction n with
  | zero => simp [msb, val, Nat.mod_one]
  | succ n ih =>
    rw [msb_succ]
    simp only [val, msb_length, ih]
    rw [Nat.mod_pow_succ (b := 2), Nat.testBit_eq_decide_div_mod_eq]
    have h := Nat.mod_lt (v / 2 ^ n) (show 0 < 2 by omega)
    by_cases h1 : v / 2 ^ n % 2 = 1
    · simp [h1]; omega
    · have h0 : v / 2 ^ n % 2 = 0 := by omega
      simp [h0]
theorem val_msb_of_lt (v n : Nat) (h : v < 2 ^ n) : val (msb v n) = v := by rw [val_msb, Nat.mod_eq_of_lt h]

/-! ### bytes packed out of bits -/
def byteAt (bs : List Bool) (q : Nat) : Nat :=
  128 * (bs.getD (8*q) false).toNat + 64 * (bs.getD (8*q+1) false).toNat + 32 * (bs.getD (8*q+2) false).toNat + 16 * (bs.getD (8*q+3) false).toNat +
  8 * (bs.getD (8*q+4) false).toNat + 4 * (bs.getD (8*q+5) false).toNat + 2 * (bs.getD (8*q+6) false).toNat + (bs.getD (8*q+7) false).toNat
theorem toNat_le (b : Bool) : b.toNat ≤ 1 := by cases b <;> simp
theorem byteAt_lt (bs : List Bool) (q : Nat) : byteAt bs q < 256 := by
  unfold byteAt
  have h0 := toNat_le (bs.getD (8*q) false)
  have h1 := toNat_le (bs.getD (8*q+1) false)
  have h2 := toNat_le (bs.getD (8*q+2) false)
  have h3 := toNat_le (bs.getD (8*q+3) false)
  have h4 := toNat_le (bs.getD (8*q+4) false)
  have h5 := toNat_le (bs.getD (8*q+5) false)
  have h6 := toNat_le (bs.getD (8*q+6) false)
  have h7 := toNat_le (bs.getD (8*q+7) false)
  omega
theorem getD_push (bs : List Bool) (b : Bool) (i : Nat) : (bs ++ [b]).getD i false = if i = bs.length then b else bs.getD i false := by
  rw [List.getD_eq_getElem?_getD, List.getD_eq_getElem?_getD]
  split
  · rename_i h; subst h; simp
  · rename_i h
    by_cases hlt : i < bs.length
    · rw [List.getElem?_append_left hlt]
    · rw [List.getElem?_eq_none (by simp; omega), List.getElem?_eq_none (by omega)]
theorem getD_beyond (bs : List Bool) (i : Nat) (h : bs.length ≤ i) : bs.getD i false = false := by
  rw [List.getD_eq_getElem?_getD, List.getElem?_eq_none h]; rfl
theorem byteAt_push_other (bs : List Bool) (b : Bool) (q : Nat) (h : q ≠ bs.length / 8) : byteAt (bs ++ [b]) q = byteAt bs q := by
  unfold byteAt
  simp only [getD_push]
  rw [if_neg (by omega), if_neg (by omega), if_neg (by omega), if_neg (by omega), if_neg (by omega), if_neg (by omega), if_neg (by omega), if_neg (by omega)]
theorem byteAt_beyond (bs : List Bool) (q : Nat) (h : bs.length ≤ 8 * q) : byteAt bs q = 0 := by
  unfold byteAt
  simp only [getD_beyond bs (8*q) h, getD_beyond bs (8*q+1) (by omega), getD_beyond bs (8*q+2) (by omega), getD_beyond bs (8*q+3) (by omega), getD_beyond bs (8*q+4) (by omega), getD_beyond bs (8*q+5) (by omega), getD_beyond bs (8*q+6) (by omega), getD_beyond bs (8*q+7) (by omega)]
  rfl
theorem or_add (a s b : Nat) (hb : b < 2 ^ s) (ha : a % 2 ^ s = 0) : a ||| b = a + b := by
  have h := Nat.two_pow_add_eq_or_of_lt hb (a / 2 ^ s)
  have e : 2 ^ s * (a / 2 ^ s) = a := by have := Nat.div_add_mod a (2 ^ s); omega
  rw [e] at h
  exact h.symm
theorem byteAt_push (bs : List Bool) (b : Bool) (q r sh : Nat) (hq : q = bs.length / 8) (hr : r = bs.length % 8) (hs : (7 : Int) - r = sh) :
    byteAt bs q ||| (b.toNat * 2 ^ sh) = byteAt (bs ++ [b]) q := by
  have hb := toNat_le b
  have h0 := toNat_le (bs.getD (8*q) false)
  have h1 := toNat_le (bs.getD (8*q+1) false)
  have h2 := toNat_le (bs.getD (8*q+2) false)
  have h3 := toNat_le (bs.getD (8*q+3) false)
  have h4 := toNat_le (bs.getD (8*q+4) false)
  have h5 := toNat_le (bs.getD (8*q+5) false)
  have h6 := toNat_le (bs.getD (8*q+6) false)
  have hl : bs.length = 8 * q + r := by omega
  have hr8 : r < 8 := by omega
  have cases8 : r = 0 ∨ r = 1 ∨ r = 2 ∨ r = 3 ∨ r = 4 ∨ r = 5 ∨ r = 6 ∨ r = 7 := by omega
  have fin : ∀ s a, s < 8 → sh = s → byteAt bs q = a → a % 2 ^ (s + 1) = 0 → a + b.toNat * 2 ^ s = byteAt (bs ++ [b]) q → byteAt bs q ||| (b.toNat * 2 ^ sh) = byteAt (bs ++ [b]) q := by
    intro s a _ e1 e2 e3 e4
    rw [e1, e2, or_add a (s + 1) _ _ e3, e4]
    have : b.toNat * 2 ^ s ≤ 1 * 2 ^ s := Nat.mul_le_mul_right _ hb
    have hp := Nat.two_pow_pos s
    rw [Nat.pow_succ]
    omega
  have new : ∀ i, (bs ++ [b]).getD i false = if i = bs.length then b else bs.getD i false := getD_push bs b
  rcases cases8 with h | h | h | h | h | h | h | h <;> subst h
  · refine fin 7 _ (by omega) (by omega) rfl ?_ ?_ <;> unfold byteAt <;> (try simp only [new, hl])
    · rw [getD_beyond bs (8*q) (by omega), getD_beyond bs (8*q+1) (by omega), getD_beyond bs (8*q+2) (by omega), getD_beyond bs (8*q+3) (by omega), getD_beyond bs (8*q+4) (by omega), getD_beyond bs (8*q+5) (by omega), getD_beyond bs (8*q+6) (by omega), getD_beyond bs (8*q+7) (by omega)]
      simp
    · (repeat (first | rw [if_pos (by omega)] | rw [if_neg (by omega)]))
      rw [getD_beyond bs (8*q) (by omega)]
      simp; omega
  · refine fin 6 _ (by omega) (by omega) rfl ?_ ?_ <;> unfold byteAt <;> (try simp only [new, hl])
    · rw [getD_beyond bs (8*q+1) (by omega), getD_beyond bs (8*q+2) (by omega), getD_beyond bs (8*q+3) (by omega), getD_beyond bs (8*q+4) (by omega), getD_beyond bs (8*q+5) (by omega), getD_beyond bs (8*q+6) (by omega), getD_beyond bs (8*q+7) (by omega)]
      simp
    · (repeat (first | rw [if_pos (by omega)] | rw [if_neg (by omega)]))
      rw [getD_beyond bs (8*q+1) (by omega)]
      simp; omega
  · refine fin 5 _ (by omega) (by omega) rfl ?_ ?_ <;> unfold byteAt <;> (try simp only [new, hl])
    · rw [getD_beyond bs (8*q+2) (by omega), getD_beyond bs (8*q+3) (by omega), getD_beyond bs (8*q+4) (by omega), getD_beyond bs (8*q+5) (by omega), getD_beyond bs (8*q+6) (by omega), getD_beyond bs (8*q+7) (by omega)]
      simp; omega
    · (repeat (first | rw [if_pos (by omega)] | rw [if_neg (by omega)]))
      rw [getD_beyond bs (8*q+2) (by omega)]
      simp; omega
  · refine fin 4 _ (by omega) (by omega) rfl ?_ ?_ <;> unfold byteAt <;> (try simp only [new, hl])
    · rw [getD_beyond bs (8*q+3) (by omega), getD_beyond bs (8*q+4) (by omega), getD_beyond bs (8*q+5) (by omega), getD_beyond bs (8*q+6) (by omega), getD_beyond bs (8*q+7) (by omega)]
      simp; omega
    · (repeat (first | rw [if_pos (by omega)] | rw [if_neg (by omega)]))
      rw [getD_beyond bs (8*q+3) (by omega)]
      simp; omega
  · refine fin 3 _ (by omega) (by omega) rfl ?_ ?_ <;> unfold byteAt <;> (try simp only [new, hl])
    · rw [getD_beyond bs (8*q+4) (by omega), getD_beyond bs (8*q+5) (by omega), getD_beyond bs (8*q+6) (by omega), getD_beyond bs (8*q+7) (by omega)]
      simp; omega
    · (repeat (first | rw [if_pos (by omega)] | rw [if_neg (by omega)]))
      rw [getD_beyond bs (8*q+4) (by omega)]
      simp; omega
  · refine fin 2 _ (by omega) (by omega) rfl ?_ ?_ <;> unfold byteAt <;> (try simp only [new, hl])
    · rw [getD_beyond bs (8*q+5) (by omega), getD_beyond bs (8*q+6) (by omega), getD_beyond bs (8*q+7) (by omega)]
      simp; omega
    · (repeat (first | rw [if_pos (by omega)] | rw [if_neg (by omega)]))
      rw [getD_beyond bs (8*q+5) (by omega)]
      simp; omega
  · refine fin 1 _ (by omega) (by omega) rfl ?_ ?_ <;> unfold byteAt <;> (try simp only [new, hl])
    · rw [getD_beyond bs (8*q+6) (by omega), getD_beyond bs (8*q+7) (by omega)]
      simp; omega
    · (repeat (first | rw [if_pos (by omega)] | rw [if_neg (by omega)]))
      rw [getD_beyond bs (8*q+6) (by omega)]
      simp; omega
  · refine fin 0 _ (by omega) (by omega) rfl ?_ ?_ <;> unfold byteAt <;> (try simp only [new, hl])
    · rw [getD_beyond bs (8*q+7) (by omega)]
      simp; omega
    · (repeat (first | rw [if_pos (by omega)] | rw [if_neg (by omega)]))
      rw [getD_beyond bs (8*q+7) (by omega)]
      simp

/-- the bytes that hold bits -/
def pack (bs : List Bool) (m : Nat) : List Nat := (List.range m).map (byteAt bs)
@[simp] theorem pack_length (bs : List Bool) (m : Nat) : (pack bs m).length = m := by simp [pack]
theorem pack_push (bs : List Bool) (b : Bool) (m : Nat) (hm : m = bs.length / 8 + 1) : (pack bs m).set (bs.length / 8) (byteAt (bs ++ [b]) (bs.length / 8)) = pack (bs ++ [b]) m := by
  apply List.ext_getElem?
  intro i
  rw [List.getElem?_set]
  simp only [pack, List.length_map, List.length_range, List.getElem?_map]
  by_cases hi : bs.length / 8 = i
  · rw [if_pos hi, if_pos (by omega)]
    subst hi
    rw [List.getElem?_range (by omega)]
    rfl
  · rw [if_neg hi]
    by_cases hlt : i < m
    · rw [List.getElem?_range hlt]
      simp only [Option.map_some]
      rw [byteAt_push_other bs b i (Ne.symm hi)]
    · rw [List.getElem?_eq_none (by simp; omega)]
      rfl
theorem pack_zero (bs : List Bool) (m : Nat) (h : bs.length = 8 * m) : pack bs m ++ [0] = pack bs (m + 1) := by
  simp only [pack, List.range_succ, List.map_append, List.map_cons, List.map_nil]
  rw [byteAt_beyond bs m (by omega)]

/-- the bits of bytes -/
def bitsOf (l : List Nat) : List Bool := l.flatMap fun b => msb b 8
theorem byteAt_testBit (bs : List Bool) (q : Nat) : msb (byteAt bs q) 8 = [bs.getD (8*q) false, bs.getD (8*q+1) false, bs.getD (8*q+2) false, bs.getD (8*q+3) false, bs.getD (8*q+4) false, bs.getD (8*q+5) false, bs.getD (8*q+6) false, bs.getD (8*q+7) false] := by
  unfold byteAt
  generalize bs.getD (8*q) false = a0
  generalize bs.getD (8*q+1) false = a1
  generalize bs.getD (8*q+2) false = a2
  generalize bs.getD (8*q+3) false = a3
  generalize bs.getD (8*q+4) false = a4
  generalize bs.getD (8*q+5) false = a5
  generalize bs.getD (8*q+6) false = a6
  generalize bs.getD (8*q+7) false = a7
  revert a0 a1 a2 a3 a4 a5 a6 a7
  decide
theorem bitsOf_pack (bs : List Bool) : ∀ m, bitsOf (pack bs m) = (List.range (8 * m)).map fun i => bs.getD i false := by
  intro m
  induction m with
  | zero => rfl
  | succ m ih =>
    have e : 8 * (m + 1) = 8 * m + 1 + 1 + 1 + 1 + 1 + 1 + 1 + 1 := by omega
    simp only [pack, bitsOf, List.range_succ, List.map_append, List.map_cons, List.map_nil, List.flatMap_append, List.flatMap_cons, List.flatMap_nil] at ih ⊢
    rw [ih, byteAt_testBit, e]
    simp only [List.range_succ, List.map_append, List.map_cons, List.map_nil, List.append_assoc, List.cons_append, List.nil_append, List.append_nil]
theorem bitsOf_packed (bs : List Bool) : ∃ pad, bitsOf (pack bs ((bs.length + 7) / 8)) = bs ++ pad := by
  refine ⟨List.replicate (8 * ((bs.length + 7) / 8) - bs.length) false, ?_⟩
  rw [bitsOf_pack]
  apply List.ext_getElem
  · simp; omega
  · intro i h1 h2
    simp only [List.getElem_map, List.getElem_range]
    by_cases hi : i < bs.length
    · rw [List.getElem_append_left hi, List.getD_eq_getElem?_getD, List.getElem?_eq_getElem hi]; rfl
    · rw [List.getElem_append_right (by omega), getD_beyond bs i (by omega)]
      simp
end Go.Proofs.YtgghadfelagghaaDoor

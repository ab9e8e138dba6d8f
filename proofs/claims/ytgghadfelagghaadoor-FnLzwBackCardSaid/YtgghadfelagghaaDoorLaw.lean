/-
  The law 'FnLzwBack': what it returns.
  Conditions: the bytes are below 256; io.EOF is a pointer.
-/
import Derived.Test.YtgghadfelagghaaDoorLzw
import Derived.Deep.QuietTactic
import Derived.BigQuiet
namespace Go.Proofs.YtgghadfelagghaaDoor
open Go Go.RowKit
theorem conv_owned {w : World} {base : Nat} {v : Value} {l : List Nat} (h : w.ownsRow base 5 1 v l.length (u8v l)) : (convert 22 9 v).run Tryd.prog w = .ok (.string (str l)) w := by
  rcases h.2 with ⟨rfl, h0⟩ | ⟨g, cap, cur, rfl, hb, hg, _⟩
  · rw [List.length_eq_zero_iff.1 h0]
    exact conv_nil w 0 0
  · refine conv_bytes w g 0 cap l (fun i x hx => ?_)
    have hi := (List.getElem?_eq_some_iff.1 hx).1
    rw [Nat.zero_add, h.cellAt i (by omega), u8v_get, hx]
    rfl
theorem Str.bits {bs : List Bool} {data : List Nat} (h : Str [] none bs data) : 0 < bs.length := by
  have h9 := lw_ge (258 + ([] : List (List Nat)).length)
  cases h <;> simp only [List.length_append, msb_length] <;> omega
set_option maxRecDepth 100000 in
set_option maxHeartbeats 1600000 in
theorem law_short (ev : Int) (hev0 : 0 ≤ ev) (hev1 : ev < 65536) (data : List Nat) (n cap : Nat) (p : Option Addr) (w : World) (hlen : data.length = n) (hn : n ≤ 5000) (hb : ∀ b ∈ data, b < 256) (hs : SrcAt w.heap.size w (.slice p n cap) data)
    (hconv : ∀ w', Below w.heap.size w w' → (convert 22 9 (.slice p n cap)).run Tryd.prog w' = .ok (.string (str data)) w') (ea : Addr) (heof : w.cell? ⟨0, 0, none⟩ = some (.iface 68 (.pointer (some ea)))) (h0 : 0 < w.heap.size) :
    Calls Tryd.prog 3 #[.slice p n cap, .int .u16 ev] w fun e w' => e = .returned (.bool true) ∧ Below w.heap.size w w' := by
  have hcod := fun k h1 h2 => coded_any k h1 h2 data (by omega) hb (.slice p n cap) w hs
  have Hcod := Lib.hid hcod; clear hcod
  have Hlen := Lib.hid hlen; clear hlen
  have Hconv := Lib.hid hconv; clear hconv
  have Heof := Lib.hid heof; clear heof
  clear hs hb
  have hni : (n : Int) ≤ 5000 := by omega
  go_enter Tryd.func3, Tryd.ntmps3
  go_upto_region 5 with fail
  go_wp2_with fail
  refine (Hcod.out (ev % 400) (by omega) (by omega)).mono ?_
  rintro e w1 ⟨ov, bs, rfl, hb1, hown1, hstr, hbl⟩
  obtain ⟨m, hm⟩ : ∃ m, (bs.length + 7) / 8 = m := ⟨_, rfl⟩
  have hbp := Str.bits (List.append_nil bs ▸ hstr [])
  obtain ⟨pad, hpad⟩ := bitsOf_packed bs
  rw [hm] at hown1 hpad
  have hm0 : 0 < m := by omega
  have hm1 : m ≤ 100000 := by omega
  obtain ⟨g, c, rfl, hgb, _⟩ := owns_slice hown1 hm0
  have hlz := lzw_any g c m (pack bs m) data ea w1 (pack_length bs m) hm0 hm1 (fun x hx => by
      simp only [pack, List.mem_map] at hx
      obtain ⟨q, _, rfl⟩ := hx
      exact byteAt_lt bs q) (fun j u hu => by
      have hj : j < m := by have := (List.getElem?_eq_some_iff.1 hu).1; rw [u8v_length, pack_length] at this; exact this
      rw [addr_add', Nat.zero_add, hown1.cellAt j (by omega)]
      exact hu) (by rw [hpad]; exact hstr pad) (by have := Hlen.out; omega) (by rw [hb1.cell (p := ⟨0, 0, none⟩) h0]; exact Heof.out) (by have := hb1.size; omega)
  have Hb1 := Lib.hid hb1; clear hb1
  clear hown1 hstr hpad hm hbl hbp
  go_wp2_with fail
  refine hlz.mono ?_
  rintro e w2 ⟨dv, rfl, hown2, hk2⟩
  have hb2 : Below w.heap.size w w2 := Hb1.out.trans (hk2.below (fun _ _ e => e) (Hb1.out.size))
  have hc1 := conv_owned hown2
  have hc2 := Hconv.out w2 hb2
  have Hb2 := Lib.hid hb2; clear hb2
  have hes := str_eq data
  clear hown2 hk2 hlz
  generalize str data = S at *
  go_wp2_with fail
  go_ret
  exact ⟨rfl, Hb2.out⟩
theorem law_long (ev : Int) (n cap : Nat) (p : Option Addr) (w : World) (hn : 5000 < n) :
    Calls Tryd.prog 3 #[.slice p n cap, .int .u16 ev] w fun e w' => e = .returned (.bool true) ∧ Below w.heap.size w w' := by
  have hni : (5000 : Int) < n := by omega
  by_cases h2 : (2147483647 : Int) < n
  · go_enter Tryd.func3, Tryd.ntmps3
    go_wp2_with fail
    go_ret
    exact ⟨rfl, Below.refl _ _⟩
  · go_enter Tryd.func3, Tryd.ntmps3
    go_wp2_with fail
    go_ret
    exact ⟨rfl, Below.refl _ _⟩
theorem conv_empty (w : World) (p : Option Addr) (c : Nat) : (convert 22 9 (.slice p 0 c)).run Tryd.prog w = .ok (.string (str [])) w := by
  cases p with
  | none => exact conv_nil w 0 c
  | some a =>
    have h := run_convert_bytes_string (P := Tryd.prog) w 22 9 5 (some a) 0 c Tryd.underlying22 Tryd.underlying5 Tryd.underlying9
    rw [h]
    have hl : (loadCells a 0).run Tryd.prog w = .ok #[] w := run_loadCells_list (P := Tryd.prog) w a [] (fun j v hj => by simp at hj)
    simp [Conv.bytesToString, hl, str]
    rfl
/-- the law, whatever the slice -/
theorem law_any (ev : Int) (hev0 : 0 ≤ ev) (hev1 : ev < 65536) (data : List Nat) (n cap : Nat) (p : Option Addr) (w : World) (hlen : data.length = n) (hcap : n ≤ cap) (hb : ∀ b ∈ data, b < 256)
    (hp : n = 0 ∨ ∃ b off, p = some ⟨b, off, none⟩ ∧ b < w.heap.size ∧ ∀ i x, data[i]? = some x → w.cell? ⟨b, off + i, none⟩ = some (.int .u8 (x : Nat)))
    (ea : Addr) (heof : w.cell? ⟨0, 0, none⟩ = some (.iface 68 (.pointer (some ea)))) (h0 : 0 < w.heap.size) :
    Calls Tryd.prog 3 #[.slice p n cap, .int .u16 ev] w fun e w' => e = .returned (.bool true) ∧ Below w.heap.size w w' := by
  by_cases hn : 5000 < n
  · exact law_long ev n cap p w hn
  · refine law_short ev hev0 hev1 data n cap p w hlen (by omega) hb ?_ ?_ ea heof h0
    · refine ⟨p, cap, by rw [hlen], by omega, fun hne => ?_⟩
      rcases hp with hz | ⟨b, off, rfl, hbH, hc⟩
      · exact absurd (List.length_eq_zero_iff.1 (hlen.trans hz)) hne
      · exact ⟨b, off, rfl, hbH, hc⟩
    · intro w' hB
      rcases hp with hz | ⟨b, off, rfl, hbH, hc⟩
      · rw [List.length_eq_zero_iff.1 (hlen.trans hz)]
        rw [hz]
        exact conv_empty w' p cap
      · rw [← hlen]
        refine conv_bytes w' b off cap data (fun i x hx => ?_)
        rw [hB.cell (p := ⟨b, off + i, none⟩) hbH]
        exact hc i x hx
end Go.Proofs.YtgghadfelagghaaDoor

/-
  'readMSB': the next code of so many bits, the highest first, out of the bits that are pending and the bytes that are left.
  Conditions: the bits begin with that code; the width is at most 12, at least 8; the bytes lie in memory that is neither the decoder's nor the reader's block.
-/
import Derived.Test.YtgghadfelagghaaDoorRead1
import Derived.Deep.RegionWith
import Derived.StillTailTactics
import Derived.BigRegion
import Derived.Deep.CutBlock
namespace Go.Proofs.YtgghadfelagghaaDoor
open Go Go.RowKit

theorem method_readByte (a : Addr) (w : World) : (method 201 33 (.pointer (some a)) "ReadByte").run Tryd.prog w = .ok (35, .pointer (some a)) w := by kernel_rfl

/-! ### numbers -/
theorem num_or (p x nb : Nat) (hnb : nb ≤ 24) (hx : x < 256) : (p * 2 ^ (32 - nb)) ||| (x * 2 ^ (24 - nb)) = (p * 256 + x) * 2 ^ (24 - nb) := by
  have e1 : 2 ^ (32 - nb) = 256 * 2 ^ (24 - nb) := by
    rw [show 32 - nb = 8 + (24 - nb) by omega, Nat.pow_add]
  have hs : x * 2 ^ (24 - nb) < 2 ^ (32 - nb) := by
    rw [e1]; exact Nat.mul_lt_mul_of_pos_right hx (Nat.two_pow_pos _)
  have h := Nat.two_pow_add_eq_or_of_lt hs p
  rw [Nat.mul_comm (2 ^ (32 - nb)) p] at h
  rw [← h, e1, Nat.add_mul, Nat.mul_assoc]
theorem num_lt (p nb : Nat) (hp : p < 2 ^ nb) (hnb : nb ≤ 32) : p * 2 ^ (32 - nb) < 4294967296 := by
  have : p * 2 ^ (32 - nb) < 2 ^ nb * 2 ^ (32 - nb) := Nat.mul_lt_mul_of_pos_right hp (Nat.two_pow_pos _)
  rw [← Nat.pow_add, show nb + (32 - nb) = 32 by omega] at this
  exact this
theorem num_shr (c q wd nb : Nat) (hq : q < 2 ^ (nb - wd)) (h1 : wd ≤ nb) (h2 : nb ≤ 32) : (c * 2 ^ (nb - wd) + q) * 2 ^ (32 - nb) / 2 ^ (32 - wd) = c := by
  have e : 2 ^ (32 - wd) = 2 ^ (nb - wd) * 2 ^ (32 - nb) := by rw [← Nat.pow_add]; congr 1; omega
  rw [e, Nat.mul_comm (2 ^ (nb - wd)), ← Nat.div_div_eq_div_mul, Nat.mul_div_cancel _ (Nat.two_pow_pos _)]
  rw [Nat.add_comm, Nat.add_mul_div_right _ _ (Nat.two_pow_pos _), Nat.div_eq_of_lt hq, Nat.zero_add]
theorem num_shl (c q wd nb : Nat) (hq : q < 2 ^ (nb - wd)) (h1 : wd ≤ nb) (h2 : nb ≤ 32) : (c * 2 ^ (nb - wd) + q) * 2 ^ (32 - nb) * 2 ^ wd % 4294967296 = q * 2 ^ (32 - (nb - wd)) := by
  have e1 : 2 ^ (32 - nb) * 2 ^ wd = 2 ^ (32 - (nb - wd)) := by rw [← Nat.pow_add]; congr 1; omega
  rw [Nat.mul_assoc, e1, Nat.add_mul, Nat.mul_assoc, ← Nat.pow_add, show nb - wd + (32 - (nb - wd)) = 32 by omega]
  have hlt : q * 2 ^ (32 - (nb - wd)) < 4294967296 := num_lt q (nb - wd) hq (by omega)
  rw [Nat.add_comm, Nat.add_mul_mod_self_right, Nat.mod_eq_of_lt hlt]

theorem or_u32 (bv x s : Nat) (hb : bv < 4294967296) (hx : x < 256) (hs : s ≤ 24) : Go.bits BinOp.or IntKind.u32 (bv : Int) (IntKind.u32.wrap ((x : Int) * 2 ^ s)) = ((bv ||| (x * 2 ^ s) : Nat) : Int) := by
  have h1 : x * 2 ^ s < 4294967296 := by
    have h2 : 2 ^ s ≤ 2 ^ 24 := Nat.pow_le_pow_right (by omega) hs
    have h3 : x * 2 ^ s ≤ x * 2 ^ 24 := Nat.mul_le_mul_left _ h2
    omega
  have e : ((x : Int) * 2 ^ s) = ((x * 2 ^ s : Nat) : Int) := by norm_cast
  rw [e, IntKind.wrap_u32', show (((x * 2 ^ s : Nat) : Int) % 4294967296) = ((x * 2 ^ s : Nat) : Int) by omega]
  exact u32_or_nat bv (x * 2 ^ s) hb h1
theorem drop_bits {src : List Nat} {i x : Nat} (h : src[i]? = some x) : bitsOf (src.drop i) = msb x 8 ++ bitsOf (src.drop (i + 1)) := by
  have hi := (List.getElem?_eq_some_iff.1 h).1
  have hx : src[i] = x := (List.getElem?_eq_some_iff.1 h).2
  rw [List.drop_eq_getElem_cons hi, hx]
  rfl

theorem split_bits {p r m B : List Bool} (h : p ++ r = m ++ B) (hl : m.length ≤ p.length) : ∃ q, p = m ++ q ∧ q ++ r = B := by
  refine ⟨p.drop m.length, ?_, ?_⟩
  · have h1 := congrArg (List.take m.length) h
    rw [List.take_append_of_le_length hl, List.take_left] at h1
    exact (List.take_append_drop m.length p).symm.trans (by rw [h1])
  · have h2 := congrArg (List.drop m.length) h
    rw [List.drop_append_of_le_length hl, List.drop_left] at h2
    exact h2

/-! ### where the reading stands -/
/-- nb bits are pending, at the head of the word bv; they and what is left of the bytes are the bits B -/
def RP (br : Nat) (sv : Value) (src : List Nat) (most nb bv : Nat) (B : List Bool) (w : World) : Prop :=
  ∃ pend i, nb = pend.length ∧ bv = val pend * 2 ^ (32 - pend.length) ∧ pend.length ≤ most ∧ pend ++ bitsOf (src.drop i) = B ∧ RdAt br sv i w
/-- the decoder's cells with these two laid in -/
def CC (C : Array Value) (bv nb : Nat) : Array Value := (C.setIfInBounds 1 (.int .u32 (bv : Nat))).setIfInBounds 2 (.int .u64 (nb : Nat))
theorem CC_self {C : Array Value} {bv nb : Nat} (h1 : C[1]? = some (.int .u32 (bv : Nat))) (h2 : C[2]? = some (.int .u64 (nb : Nat))) : CC C bv nb = C := by
  apply Array.ext_getElem?
  intro i
  unfold CC
  rw [Array.getElem?_setIfInBounds, Array.getElem?_setIfInBounds]
  have s1 := (Array.getElem?_eq_some_iff.1 h1).1
  have s2 := (Array.getElem?_eq_some_iff.1 h2).1
  by_cases e2 : 2 = i
  · subst e2; rw [if_pos rfl, if_pos (by simpa using s2)]; exact h2.symm
  · rw [if_neg e2]
    by_cases e1 : 1 = i
    · subst e1; rw [if_pos rfl, if_pos (by simpa using s1)]; exact h1.symm
    · rw [if_neg e1]
theorem CC_bits (C : Array Value) (bv nb bv' : Nat) : (CC C bv nb).setIfInBounds 1 (.int .u32 (bv' : Nat)) = CC C bv' nb := by
  unfold CC
  rw [Array.setIfInBounds_comm _ _ (by decide), Array.setIfInBounds_setIfInBounds]
theorem CC_n (C : Array Value) (bv nb nb' : Nat) : (CC C bv nb).setIfInBounds 2 (.int .u64 (nb' : Nat)) = CC C bv nb' := by
  unfold CC
  rw [Array.setIfInBounds_setIfInBounds]
theorem CC_other (C : Array Value) (bv nb i : Nat) (h1 : i ≠ 1) (h2 : i ≠ 2) : (CC C bv nb)[i]? = C[i]? := by
  unfold CC
  rw [Array.getElem?_setIfInBounds, Array.getElem?_setIfInBounds, if_neg (Ne.symm h2), if_neg (Ne.symm h1)]
theorem CC_1 (C : Array Value) (bv nb : Nat) (h : 2 < C.size) : (CC C bv nb)[1]? = some (.int .u32 (bv : Nat)) := by
  unfold CC
  rw [Array.getElem?_setIfInBounds, if_neg (by decide), Array.getElem?_setIfInBounds, if_pos rfl, if_pos (by omega)]
theorem CC_2 (C : Array Value) (bv nb : Nat) (h : 2 < C.size) : (CC C bv nb)[2]? = some (.int .u64 (nb : Nat)) := by
  unfold CC
  rw [Array.getElem?_setIfInBounds, if_pos rfl, if_pos (by simpa using h)]
theorem CC_size (C : Array Value) (bv nb : Nat) : (CC C bv nb).size = C.size := by simp [CC]

def Got (bd br : Nat) (sv : Value) (src : List Nat) (C : Array Value) (c : Nat) (B : List Bool) (w : World) (e : Ending) (w' : World) : Prop :=
  e = .returned (.tuple #[.int .u16 (c : Nat), .nilIface]) ∧ ∃ nb bv, w'.heap[bd]? = some (.cells (CC C bv nb) 58 (0, 0)) ∧ RP br sv src 7 nb bv B w' ∧ Kp (fun k => k = bd ∨ k = br) w w'

set_option maxRecDepth 100000 in
set_option maxHeartbeats 800000 in
theorem readMSB_any (bd br b off cap nb bv wd c : Nat) (src : List Nat) (C : Array Value) (B : List Bool) (w : World) (hblk : w.heap[bd]? = some (.cells C 58 (0, 0)))
    (h0 : C[0]? = some (.iface 33 (.pointer (some ⟨br, 0, none⟩)))) (h1 : C[1]? = some (.int .u32 (bv : Nat))) (h2 : C[2]? = some (.int .u64 (nb : Nat))) (h3 : C[3]? = some (.int .u64 (wd : Nat)))
    (hrp : RP br (.slice (some ⟨b, off, none⟩) src.length cap) src 7 nb bv (msb c wd ++ B) w) (hw8 : 8 ≤ wd) (hw : wd ≤ 12) (hc : c < 2 ^ wd)
    (hsrc : ∀ i x, src[i]? = some x → w.cell? ⟨b, off + i, none⟩ = some (.int .u8 (x : Nat))) (hlen : src.length ≤ 100000) (hsb : ∀ x ∈ src, x < 256) (hbr : br ≠ bd) (hb1 : b ≠ br) (hb2 : b ≠ bd) :
    Calls Tryd.prog 13 #[.pointer (some ⟨bd, 0, none⟩)] w fun e w' => Got bd br (.slice (some ⟨b, off, none⟩) src.length cap) src C c B w e w' := by
  have hmth := method_readByte
  have hC2 : 2 < C.size := (Array.getElem?_eq_some_iff.1 h2).1
  rw [← CC_self h1 h2] at hblk
  have Hrp := Lib.hid hrp; clear hrp
  have Hblk := Lib.hid hblk; clear hblk
  have Hsrc := Lib.hid hsrc; clear hsrc
  have Hsb := Lib.hid hsb; clear hsb
  have H0 := Lib.hid h0; clear h0
  have H3 := Lib.hid h3; clear h3
  have Hc := Lib.hid hc; clear hc
  clear h1 h2
  go_enter Tryd.func13, Tryd.ntmps13
  go_upto_block 0 with fail
  go_cut [] (fun wr => ∃ nb bv, wd ≤ nb ∧ wr.heap[bd]? = some (.cells (CC C bv nb) 58 (0, 0)) ∧ RP br (.slice (some ⟨b, off, none⟩) src.length cap) src (wd + 7) nb bv (msb c wd ++ B) wr ∧ Kp (fun k => k = bd ∨ k = br) w wr)
  case first =>
    go_wp2_with fail
    go_loopg [] (40 - nb) (fun gk wr => ∃ nb bv, gk = 40 - nb ∧ wr.heap[bd]? = some (.cells (CC C bv nb) 58 (0, 0)) ∧ RP br (.slice (some ⟨b, off, none⟩) src.length cap) src (wd + 7) nb bv (msb c wd ++ B) wr ∧ Kp (fun k => k = bd ∨ k = br) w wr)
    case atStart =>
      obtain ⟨pend, i, h1, h2, h3, h4, h5⟩ := Hrp.out
      exact ⟨nb, bv, rfl, Hblk.out, ⟨pend, i, h1, h2, by omega, h4, h5⟩, Kp.refl _ _⟩
    case round =>
      obtain ⟨nb, bv, hgk, hblk, hrp, hkp⟩ := hrel
      have Hgk := Lib.hid hgk; clear hgk
      have c0 : wr.cell? ⟨bd, 0, none⟩ = some (.iface 33 (.pointer (some ⟨br, 0, none⟩))) := by rw [cell_blk hblk, CC_other _ _ _ _ (by decide) (by decide)]; exact H0.out
      have c1 : wr.cell? ⟨bd, 1, none⟩ = some (.int .u32 (bv : Nat)) := by rw [cell_blk hblk, CC_1 _ _ _ hC2]
      have c2 : wr.cell? ⟨bd, 2, none⟩ = some (.int .u64 (nb : Nat)) := by rw [cell_blk hblk, CC_2 _ _ _ hC2]
      have c3 : wr.cell? ⟨bd, 3, none⟩ = some (.int .u64 (wd : Nat)) := by rw [cell_blk hblk, CC_other _ _ _ _ (by decide) (by decide)]; exact H3.out
      have hnb19 : nb ≤ 19 := by obtain ⟨pend, i, h1, h2, h3, _⟩ := hrp; omega
      have Hrp1 := Lib.hid hrp; clear hrp
      have Hblk1 := Lib.hid hblk; clear hblk
      have Hkp := Lib.hid hkp; clear hkp
      by_cases hlt : nb < wd
      · have hnbi : (nb : Int) < (wd : Int) := by omega
        go_upto_region 1 with fail
        go_quiet (fail)
        go_wp2_with fail
        obtain ⟨W, hW⟩ : ∃ W, wr.drewN nq = W := ⟨_, rfl⟩
        rw [hW]
        obtain ⟨pend, i, hp1, hp2, hp3, hp4, hp5⟩ := Hrp1.out
        have hi : i < src.length := by
          refine Nat.lt_of_not_le fun hle => ?_
          rw [List.drop_of_length_le hle] at hp4
          have := congrArg List.length hp4
          rw [show bitsOf [] = [] from rfl, List.append_nil, List.length_append, msb_length] at this
          omega
        obtain ⟨x, hx⟩ : ∃ x, src[i]? = some x := ⟨_, List.getElem?_eq_getElem hi⟩
        have hxc : W.cell? ⟨b, off + i, none⟩ = some (.int .u8 (x : Nat)) := by
          rw [← hW]
          exact Hkp.out.cell (Hsrc.out i x hx) (fun e => by rcases e with e | e; exact hb2 e; exact hb1 e)
        have hrd : RdAt br (.slice (some ⟨b, off, none⟩) src.length cap) i W := by rw [← hW]; exact hp5
        clear hp5
        refine (readByte_any br b off src.length cap i x W hrd hi hlen hxc hb1).mono ?_
        rintro e w2 ⟨rfl, hrd2, hk2⟩
        have hblk2 : w2.heap[bd]? = some (.cells (CC C bv nb) 58 (0, 0)) := hk2.heap (hW ▸ Hblk1.out) (fun e => hbr e.symm)
        have hkp2 : Kp (fun k => k = bd ∨ k = br) w w2 := (hW ▸ Hkp.out.drewN nq).trans hk2 (fun k _ e => .inr e)
        have d1 : w2.cell? ⟨bd, 1, none⟩ = some (.int .u32 (bv : Nat)) := by rw [cell_blk hblk2, CC_1 _ _ _ hC2]
        have d2 : w2.cell? ⟨bd, 2, none⟩ = some (.int .u64 (nb : Nat)) := by rw [cell_blk hblk2, CC_2 _ _ _ hC2]
        have g1 := frz_blk hblk2 1
        have g2 := frz_blk hblk2 2
        have hx256 : x < 256 := Hsb.out x (List.mem_of_getElem? hx)
        obtain ⟨s, hs⟩ : ∃ s : Nat, (24 : Int) - nb = s := ⟨24 - nb, by omega⟩
        have hs24 : s ≤ 24 := by omega
        have hs2 : s = 24 - nb := by omega
        have hsw : IntKind.u64.wrap (s : Int) = s := by rw [IntKind.wrap_u64]; omega
        have hxw : IntKind.u32.wrap (x : Int) = x := by rw [IntKind.wrap_u32']; omega
        obtain ⟨bv2, hbv2⟩ : ∃ bv2, bv2 = bv ||| (x * 2 ^ s) := ⟨_, rfl⟩
        have hor : Go.bits BinOp.or IntKind.u32 (bv : Int) (IntKind.u32.wrap ((x : Int) * 2 ^ s)) = (bv2 : Nat) := by
          rw [hbv2]
          exact or_u32 bv x s (by rw [hp2]; exact num_lt _ _ (val_lt pend) (by omega)) hx256 hs24
        have hbv3 : Hid (bv2 = val (pend ++ msb x 8) * 2 ^ (32 - (pend ++ msb x 8).length)) := by
          show bv2 = _
          rw [hbv2, hp2, hs2, hp1, num_or _ _ _ (by omega) hx256, val_append, msb_length, val_msb_of_lt x 8 hx256, List.length_append, msb_length, show 32 - (pend.length + 8) = 24 - pend.length by omega]
        have hrp3 : Hid (pend ++ msb x 8 ++ bitsOf (src.drop (i + 1)) = msb c wd ++ B) := by
          show _ = _
          rw [← hp4, drop_bits hx, List.append_assoc]
        have Hbv2 := Lib.hid hbv2; clear hbv2
        have Hs2 := Lib.hid hs2; clear hs2
        have Hp1 := Lib.hid hp1; clear hp1
        clear hp2 hp3 hp4
        have Hx := Lib.hid hx; clear hx
        have Hblk2 := Lib.hid hblk2; clear hblk2
        have Hrd2 := Lib.hid hrd2; clear hrd2
        have Hkp2 := Lib.hid hkp2; clear hkp2 hk2 hrd hxc hW c0 c1 c2 c3
        go_upto_region 5 with fail
        refine wp_region_still_tail 15 (by kernel_rfl) (by kernel_rfl) ?_
        simp only [List.take_succ_cons, List.take_zero, List.drop_succ_cons, List.drop_zero]
        repeat still_step
        refine wpStill_nil ?_
        change wpList _ _ _ _ _ w2.drew
        clear hor hsw hxw hs
        go_wp2_with fail
        go_roundg (40 - (nb + 8))
        case measure => have := Hgk.out; omega
        case rel =>
          refine ⟨nb + 8, bv2, rfl, ?_, ⟨pend ++ msb x 8, i + 1, by rw [List.length_append, msb_length, ← Hp1.out], hbv3.out, by rw [List.length_append, msb_length, ← Hp1.out]; omega, hrp3.out, ?_⟩, ?_⟩
          · show ((w2.setCell _ _).setCell _ _).heap[bd]? = _
            rw [setCell_blk (setCell_blk Hblk2.out _ _), CC_bits, show ((nb : Int) + 8) = ((nb + 8 : Nat) : Int) by omega, CC_n]
          · obtain ⟨pr, h⟩ := Hrd2.out
            exact ⟨pr, setCell_other (setCell_other h _ _ hbr) _ _ hbr⟩
          · exact ((Hkp2.out.setCell _ _ (.inl (.inl rfl))).setCell _ _ (.inl (.inl rfl))).drew
      · go_upto_region 1 with fail
        go_quiet (fail)
        go_wp2_with fail
        go_meet
        case rel =>
          obtain ⟨pend, i, h1, h2, h3, h4, h5⟩ := Hrp1.out
          exact ⟨nb, bv, by omega, Hblk1.out, ⟨pend, i, h1, h2, h3, h4, h5⟩, Hkp.out.drewN _⟩
  case rest =>
    obtain ⟨nb2, bv2, hge, hblk, hrp, hkp⟩ := hcut
    have d1 : wc.cell? ⟨bd, 1, none⟩ = some (.int .u32 (bv2 : Nat)) := by rw [cell_blk hblk, CC_1 _ _ _ hC2]
    have d2 : wc.cell? ⟨bd, 2, none⟩ = some (.int .u64 (nb2 : Nat)) := by rw [cell_blk hblk, CC_2 _ _ _ hC2]
    have d3 : wc.cell? ⟨bd, 3, none⟩ = some (.int .u64 (wd : Nat)) := by rw [cell_blk hblk, CC_other _ _ _ _ (by decide) (by decide)]; exact H3.out
    have g1 := frz_blk hblk 1
    have g2 := frz_blk hblk 2
    obtain ⟨pend, i, hp1, hp2, hp3, hp4, hp5⟩ := hrp
    obtain ⟨q, hq1, hq2⟩ := split_bits hp4 (by rw [msb_length, ← hp1]; exact hge)
    have hql : q.length = nb2 - wd := by rw [hp1, hq1, List.length_append, msb_length]; omega
    have hv : val pend = c * 2 ^ (nb2 - wd) + val q := by rw [hq1, val_append, val_msb_of_lt c wd Hc.out, hql]
    have hqlt : val q < 2 ^ (nb2 - wd) := hql ▸ val_lt q
    have hbv : bv2 = (c * 2 ^ (nb2 - wd) + val q) * 2 ^ (32 - nb2) := by rw [hp2, hv, ← hp1]
    have hnb19 : nb2 ≤ 19 := by omega
    have hql7 : q.length ≤ 7 := by omega
    have hc4 : c < 4096 := Nat.lt_of_lt_of_le Hc.out (Nat.pow_le_pow_right (by omega) hw)
    obtain ⟨s, hs⟩ : ∃ s : Nat, (32 : Int) - wd = s := ⟨32 - wd, by omega⟩
    have hs2 : s = 32 - wd := by omega
    have hs32 : s ≤ 24 := by omega
    have hsw : IntKind.u64.wrap (s : Int) = s := by rw [IntKind.wrap_u64]; omega
    have hshr : (bv2 : Int) / 2 ^ s = (c : Nat) := by
      have e : bv2 / 2 ^ s = c := by rw [hbv, hs2]; exact num_shr c (val q) wd nb2 hqlt hge (by omega)
      have e2 : ((bv2 : Int) / 2 ^ s) = ((bv2 / 2 ^ s : Nat) : Int) := by norm_cast
      rw [e2, e]
    have hcw : IntKind.u16.wrap (c : Int) = c := by rw [IntKind.wrap_u16]; omega
    obtain ⟨bv3, hbv3⟩ : ∃ bv3, bv3 = val q * 2 ^ (32 - q.length) := ⟨_, rfl⟩
    have hshl : IntKind.u32.wrap ((bv2 : Int) * 2 ^ wd) = (bv3 : Nat) := by
      have e2 : ((bv2 : Int) * 2 ^ wd) = ((bv2 * 2 ^ wd : Nat) : Int) := by norm_cast
      have e : bv2 * 2 ^ wd % 4294967296 = bv3 := by rw [hbv3, hql, hbv]; exact num_shl c (val q) wd nb2 hqlt hge (by omega)
      rw [e2, IntKind.wrap_u32']
      omega
    obtain ⟨nb3, hnb3⟩ : ∃ nb3 : Nat, (nb2 : Int) - wd = nb3 := ⟨nb2 - wd, by omega⟩
    have hnb4 : nb3 = q.length := by omega
    have hnw : IntKind.u64.wrap (nb3 : Int) = nb3 := by rw [IntKind.wrap_u64]; omega
    have Hp : Hid (q ++ bitsOf (src.drop i) = B) := hq2
    have Hrd := Lib.hid hp5; clear hp5
    have Hblk2 := Lib.hid hblk; clear hblk
    have Hkp := Lib.hid hkp; clear hkp
    have Hbv3 := Lib.hid hbv3; clear hbv3
    have Hnb4 := Lib.hid hnb4; clear hnb4
    have Hql := Lib.hid hql; clear hql
    clear hp1 hp2 hp4 hq1 hq2 hv hqlt hbv hs2
    go_upto_region 7 with fail
    go_quiet (fail)
    go_wp2_with fail
    clear hsw hshr hcw hs
    obtain ⟨W, hW⟩ : ∃ W, wc.drewN nq = W := ⟨_, rfl⟩
    rw [hW]
    have hblkW : W.heap[bd]? = some (.cells (CC C bv2 nb2) 58 (0, 0)) := hW ▸ Hblk2.out
    have hrdW : RdAt br (.slice (some ⟨b, off, none⟩) src.length cap) i W := hW ▸ Hrd.out
    have hkW : Kp (fun k => k = bd ∨ k = br) w W := hW ▸ Hkp.out.drewN nq
    clear hW d1 d2 d3 g1 g2
    have d1 : W.cell? ⟨bd, 1, none⟩ = some (.int .u32 (bv2 : Nat)) := by rw [cell_blk hblkW, CC_1 _ _ _ hC2]
    have d2 : W.cell? ⟨bd, 2, none⟩ = some (.int .u64 (nb2 : Nat)) := by rw [cell_blk hblkW, CC_2 _ _ _ hC2]
    have d3 : W.cell? ⟨bd, 3, none⟩ = some (.int .u64 (wd : Nat)) := by rw [cell_blk hblkW, CC_other _ _ _ _ (by decide) (by decide)]; exact H3.out
    have g1 := frz_blk hblkW 1
    have g2 := frz_blk hblkW 2
    have HblkW := Lib.hid hblkW; clear hblkW
    have HrdW := Lib.hid hrdW; clear hrdW
    have HkW := Lib.hid hkW; clear hkW
    refine wp_region_still_tail 11 (by kernel_rfl) (by kernel_rfl) ?_
    simp only [List.take_succ_cons, List.take_zero, List.drop_succ_cons, List.drop_zero]
    repeat still_step
    refine wpStill_nil ?_
    change wpList _ _ _ _ _ W.drew
    clear hshl
    go_upto_region 9 with fail
    obtain ⟨W2, hW2⟩ : ∃ W2, (W.setCell ⟨bd, 1, none⟩ (.int .u32 (bv3 : Nat))).drew = W2 := ⟨_, rfl⟩
    rw [hW2]
    have hblk3 : W2.heap[bd]? = some (.cells (CC C bv3 nb2) 58 (0, 0)) := by
      rw [← hW2]
      show (W.setCell ⟨bd, 1, none⟩ (.int .u32 (bv3 : Nat))).heap[bd]? = _
      rw [setCell_blk HblkW.out, CC_bits]
    have hrd3 : RdAt br (.slice (some ⟨b, off, none⟩) src.length cap) i W2 := by
      obtain ⟨pr, h⟩ := HrdW.out
      exact ⟨pr, by rw [← hW2]; exact setCell_other h _ _ hbr⟩
    have hk3 : Kp (fun k => k = bd ∨ k = br) w W2 := hW2 ▸ (HkW.out.setCell _ _ (.inl (.inl rfl))).drew
    clear hW2 d1 d2 d3 g1 g2
    have d1 : W2.cell? ⟨bd, 1, none⟩ = some (.int .u32 (bv3 : Nat)) := by rw [cell_blk hblk3, CC_1 _ _ _ hC2]
    have d2 : W2.cell? ⟨bd, 2, none⟩ = some (.int .u64 (nb2 : Nat)) := by rw [cell_blk hblk3, CC_2 _ _ _ hC2]
    have d3 : W2.cell? ⟨bd, 3, none⟩ = some (.int .u64 (wd : Nat)) := by rw [cell_blk hblk3, CC_other _ _ _ _ (by decide) (by decide)]; exact H3.out
    have g2 := frz_blk hblk3 2
    have Hblk3 := Lib.hid hblk3; clear hblk3
    have Hrd3 := Lib.hid hrd3; clear hrd3
    have Hk3 := Lib.hid hk3; clear hk3
    refine wp_region_still_tail 11 (by kernel_rfl) (by kernel_rfl) ?_
    simp only [List.take_succ_cons, List.take_zero, List.drop_succ_cons, List.drop_zero]
    repeat still_step
    refine wpStill_nil ?_
    change wpList _ _ _ _ _ W2.drew
    clear hnb3 hnw
    go_wp2_with fail
    refine bodyPost_ret (results_tmp2 rfl _ _ _) rfl ?_
    refine ⟨rfl, nb3, bv3, ?_, ⟨q, i, Hnb4.out, Hbv3.out, hql7, Hp.out, ?_⟩, ?_⟩
    · show (W2.setCell _ _).heap[bd]? = _
      rw [setCell_blk Hblk3.out, CC_n]
    · obtain ⟨pr, h⟩ := Hrd3.out
      exact ⟨pr, setCell_other h _ _ hbr⟩
    · exact (Hk3.out.setCell _ _ (.inl (.inl rfl))).drew
end Go.Proofs.YtgghadfelagghaaDoor

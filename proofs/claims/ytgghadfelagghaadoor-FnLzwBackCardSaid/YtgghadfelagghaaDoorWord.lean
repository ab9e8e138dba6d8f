/-
  'lzwWidth(known, 8)' and 'putMost.word': a word of so many bits is put behind the bits that have been put; memory is as it was but for the putMost, its bytes' array and new blocks.
  Conditions: the number known is below 100,000; the word has at most 12 bits; fewer than 10,000,000 bits have been put.
-/
import Derived.Test.YtgghadfelagghaaDoorChecked
import Derived.Test.YtgghadfelagghaaDoorPure
import Derived.Test.YtgghadfelagghaaDoorAppend
import Derived.WalkKit
import Derived.StillTailTactics
import Derived.Lib.Hide
import Derived.Deep.DeepCutAuto
namespace Go.Proofs.YtgghadfelagghaaDoor
open Go Go.RowKit

theorem width_a (k : Nat) (w : World) (hk : k < 511) :
    Calls Tryd.prog 11 #[.int .i64 (k : Int), .int .i64 8] w fun e w' => e = .returned (.int .i64 9) ∧ w = w' := by
  go_enter Tryd.func11, Tryd.ntmps11
  go_wp2
  refine wp_loop_rounds 1 ?_; rw [rounds_succ]
  go_wp2
  go_ret
  exact ⟨rfl, rfl⟩
theorem width_b (k : Nat) (w : World) (h0 : 511 ≤ k) (hk : k < 1023) :
    Calls Tryd.prog 11 #[.int .i64 (k : Int), .int .i64 8] w fun e w' => e = .returned (.int .i64 10) ∧ w = w' := by
  go_enter Tryd.func11, Tryd.ntmps11
  go_wp2
  refine wp_loop_rounds 2 ?_; rw [rounds_succ]
  go_wp2
  rw [rounds_succ]
  go_wp2
  go_ret
  exact ⟨rfl, rfl⟩
theorem width_c (k : Nat) (w : World) (h0 : 1023 ≤ k) (hk : k < 2047) :
    Calls Tryd.prog 11 #[.int .i64 (k : Int), .int .i64 8] w fun e w' => e = .returned (.int .i64 11) ∧ w = w' := by
  go_enter Tryd.func11, Tryd.ntmps11
  go_wp2
  refine wp_loop_rounds 3 ?_; rw [rounds_succ]
  go_wp2
  rw [rounds_succ]
  go_wp2
  rw [rounds_succ]
  go_wp2
  go_ret
  exact ⟨rfl, rfl⟩
theorem width_d (k : Nat) (w : World) (h0 : 2047 ≤ k) (hk : k < 100000) :
    Calls Tryd.prog 11 #[.int .i64 (k : Int), .int .i64 8] w fun e w' => e = .returned (.int .i64 12) ∧ w = w' := by
  go_enter Tryd.func11, Tryd.ntmps11
  go_wp2
  refine wp_loop_rounds 4 ?_; rw [rounds_succ]
  go_wp2
  rw [rounds_succ]
  go_wp2
  rw [rounds_succ]
  go_wp2
  rw [rounds_succ]
  go_wp2
  all_goals (go_ret; exact ⟨rfl, rfl⟩)
/-- lzwWidth(known, 8) -/
theorem width_any (k : Nat) (w : World) (hk : k < 100000) :
    Calls Tryd.prog 11 #[.int .i64 (k : Int), .int .i64 8] w fun e w' => e = .returned (.int .i64 (lw k : Nat)) ∧ w = w' := by
  unfold lw
  by_cases h1 : k < 511
  · rw [if_pos h1]; exact width_a k w h1
  · by_cases h2 : k < 1023
    · rw [if_neg h1, if_pos h2]; exact width_b k w (by omega) h2
    · by_cases h3 : k < 2047
      · rw [if_neg h1, if_neg h2, if_pos h3]; exact width_c k w (by omega) h3
      · rw [if_neg h1, if_neg h2, if_neg h3]; exact width_d k w (by omega) hk

/-! ### putMost -/
def u8v (l : List Nat) : List Value := l.map fun b => Value.int .u8 (b : Nat)
@[simp] theorem u8v_length (l : List Nat) : (u8v l).length = l.length := by simp [u8v]
theorem u8v_get (l : List Nat) (i : Nat) : (u8v l)[i]? = (l[i]?).map fun b => Value.int .u8 (b : Nat) := by simp [u8v]
/-- the putMost in block bw has put the bits bs, into m bytes -/
structure PX (w : World) (base bw : Nat) (v : Value) (bs : List Bool) (m : Nat) : Prop where
  blk : w.heap[bw]? = some (.cells #[v, .int .i64 (bs.length : Nat)] 42 (0,0))
  own : w.ownsRow base 5 1 v m (u8v (pack bs m))
  lt : bw < base
  hb : base ≤ w.heap.size
/-- behind some puts that began at w with the array v0 -/
structure WRel (w : World) (base bw : Nat) (v0 : Value) (bs : List Bool) (m : Nat) (v : Value) (wr : World) : Prop where
  px : PX wr base bw v bs m
  kp : Kp (fun k => k = bw ∨ v0.ownBlock = some k) w wr
  own : ∀ g, v.ownBlock = some g → v0.ownBlock = some g ∨ w.heap.size ≤ g
theorem WRel.start {w : World} {base bw : Nat} {v : Value} {bs : List Bool} {m : Nat} (h : PX w base bw v bs m) : WRel w base bw v bs m v w :=
  ⟨h, Kp.refl _ _, fun _ hg => .inl hg⟩
theorem info5 : (Tryd.prog.info? 5).map (fun i => (i.zero, i.size, i.bytes)) = some (some (.int .u8 0), 1, 1) := by kernel_rfl
theorem and7 (n : Nat) : Go.bits BinOp.and IntKind.i64 (n : Int) 7 = (n % 8 : Nat) := by
  have h7 : (BitVec.ofInt 64 7).toNat = 2 ^ 3 - 1 := by decide
  have key : (BitVec.ofInt 64 (n : Int) &&& BitVec.ofInt 64 7).toNat = ((n : Int) % ((2 ^ 64 : Nat) : Int)).toNat % 2 ^ 3 := by
    rw [BitVec.toNat_and, BitVec.toNat_ofInt, h7, Nat.and_two_pow_sub_one_eq_mod]
  show IntKind.i64.wrap ((BitVec.ofInt 64 (n : Int) &&& BitVec.ofInt 64 7).toNat : Nat) = _
  rw [key, IntKind.wrap_i64]
  omega
theorem and1 (n : Nat) : Go.bits BinOp.and IntKind.i64 (n : Int) 1 = (n % 2 : Nat) := by
  have h7 : (BitVec.ofInt 64 1).toNat = 2 ^ 1 - 1 := by decide
  have key : (BitVec.ofInt 64 (n : Int) &&& BitVec.ofInt 64 1).toNat = ((n : Int) % ((2 ^ 64 : Nat) : Int)).toNat % 2 ^ 1 := by
    rw [BitVec.toNat_and, BitVec.toNat_ofInt, h7, Nat.and_two_pow_sub_one_eq_mod]
  show IntKind.i64.wrap ((BitVec.ofInt 64 (n : Int) &&& BitVec.ofInt 64 1).toNat : Nat) = _
  rw [key, IntKind.wrap_i64]
  omega
theorem and_bit (x k : Nat) : Go.bits BinOp.and IntKind.i64 ((x : Int) / 2 ^ k) 1 = ((x.testBit k).toNat : Nat) := by
  have e : ((x : Int) / 2 ^ k) = ((x / 2 ^ k : Nat) : Int) := by norm_cast
  rw [e, and1, Nat.testBit_eq_decide_div_mod_eq]
  have h := Nat.mod_lt (x / 2 ^ k) (show 0 < 2 by omega)
  by_cases h1 : x / 2 ^ k % 2 = 1
  · simp [h1]
  · have h0 : x / 2 ^ k % 2 = 0 := by omega
    simp [h0]
/-- the byte 0 that an append has put behind the others -/
theorem WRel.push {w : World} {base bw : Nat} {v0 : Value} {bs : List Bool} {m : Nat} {v : Value} {wr w1 : World} (h : WRel w base bw v0 bs m v wr) (hm : bs.length = 8 * m)
    {v2 : Value} (k1 : Kp (fun k => v.ownBlock = some k) wr w1) (ho : w1.ownsRow base 5 1 v2 (m + 1) (u8v (pack bs m) ++ [.int .u8 0]))
    (hown : ∀ g, v2.ownBlock = some g → v.ownBlock = some g ∨ wr.heap.size ≤ g) :
    WRel w base bw v0 bs (m + 1) v2 (w1.setCell ⟨bw, 0, none⟩ v2) := by
  have hlt := h.px.lt
  have hvb : ∀ g, v.ownBlock = some g → base ≤ g := fun g hg => (h.px.own.lt g hg).1
  have hbw : w1.heap[bw]? = some (.cells #[v, .int .i64 (bs.length : Nat)] 42 (0,0)) := k1.heap h.px.blk (fun e => by have := hvb _ e; omega)
  have hv2b : ∀ g, v2.ownBlock = some g → base ≤ g := fun g hg => (ho.lt g hg).1
  have hnew : v2.ownBlock ≠ some bw := fun e => by have := hv2b _ e; omega
  have hlist : u8v (pack bs m) ++ [Value.int .u8 0] = u8v (pack bs (m + 1)) := by
    rw [← pack_zero bs m hm]; simp [u8v]
  refine ⟨⟨?_, ?_, hlt, ?_⟩, ?_, ?_⟩
  · rw [setCell_blk hbw]; rfl
  · rw [← hlist]
    exact (Kp.setCell (S := fun k => k = bw) (Kp.refl _ w1) ⟨bw, 0, none⟩ v2 (.inl rfl)).row ho (fun g hg e => hnew (e ▸ hg))
  · have := h.px.hb; have := k1.size; simp; omega
  · refine (h.kp.trans (k1.mono (S' := fun k => v.ownBlock = some k) fun _ _ x => x) ?_).setCell _ _ (.inl (.inl rfl))
    intro k hk e
    rcases h.own k e with h' | h'
    · exact .inr h'
    · omega
  · intro g hg
    rcases hown g hg with h' | h'
    · exact h.own g h'
    · exact .inr (Nat.le_trans h.kp.size h')
/-- the next bit is put into the last byte -/
theorem WRel.bit {w : World} {base bw : Nat} {v0 : Value} {bs : List Bool} {q r sh : Nat} {g cap : Nat} {wr : World} (h : WRel w base bw v0 bs (q + 1) (.slice (some ⟨g, 0, none⟩) (q + 1) cap) wr)
    (hq : q = bs.length / 8) (hr : r = bs.length % 8) (hs : (7 : Int) - r = sh) (b : Bool) :
    WRel w base bw v0 (bs ++ [b]) (((bs ++ [b]).length + 7) / 8) (.slice (some ⟨g, 0, none⟩) (q + 1) cap)
      ((wr.setCell ⟨g, q, none⟩ (.int .u8 ((byteAt bs q ||| (b.toNat * 2 ^ sh) : Nat) : Int))).setCell ⟨bw, 1, none⟩ (.int .i64 ((bs.length : Nat) + 1 : Int))) := by
  have hlt := h.px.lt
  have hgb : base ≤ g := (h.px.own.lt g rfl).1
  have hne : bw ≠ g := by omega
  have hm : ((bs ++ [b]).length + 7) / 8 = q + 1 := by simp; omega
  rw [hm]
  have hbw : (wr.setCell ⟨g, q, none⟩ (.int .u8 ((byteAt bs q ||| (b.toNat * 2 ^ sh) : Nat) : Int))).heap[bw]? = some (.cells #[.slice (some ⟨g, 0, none⟩) (q + 1) cap, .int .i64 (bs.length : Nat)] 42 (0,0)) :=
    setCell_other h.px.blk _ _ hne
  have hst := h.px.own.stored q (.int .u8 ((byteAt bs q ||| (b.toNat * 2 ^ sh) : Nat) : Int))
  have hrow : (u8v (pack bs (q + 1))).set q (.int .u8 ((byteAt bs q ||| (b.toNat * 2 ^ sh) : Nat) : Int)) = u8v (pack (bs ++ [b]) (q + 1)) := by
    rw [byteAt_push bs b q r sh hq hr hs]
    have e := pack_push bs b (q + 1) (by omega)
    rw [← hq] at e
    rw [← e]
    unfold u8v
    rw [List.map_set]
  refine ⟨⟨?_, ?_, hlt, ?_⟩, ?_, ?_⟩
  · rw [setCell_blk hbw]; simp
  · rw [← hrow]
    exact (Kp.setCell (S := fun k => k = bw) (Kp.refl _ _) ⟨bw, 1, none⟩ _ (.inl rfl)).row hst.1 (fun g' hg' e => by
      simp [Value.ownBlock] at hg'; omega)
  · have := h.px.hb; simp; omega
  · refine (h.kp.setCell _ _ ?_).setCell _ _ (.inl (.inl rfl))
    rcases h.own g rfl with h' | h'
    · exact .inl (.inr h')
    · exact .inr h'
  · intro g' hg'
    exact h.own g' hg'
theorem WRel.of_drew {w : World} {base bw : Nat} {v0 : Value} {bs : List Bool} {m : Nat} {v : Value} {wr : World} (h : WRel w base bw v0 bs m v wr) : WRel w base bw v0 bs m v wr.drew :=
  ⟨⟨h.px.blk, h.px.own, h.px.lt, h.px.hb⟩, h.kp.drew, h.own⟩
/-- what a round of 'word' leaves -/
def WLoop (w : World) (base bw : Nat) (v0 : Value) (bs : List Bool) (x n j : Nat) (wr : World) : Prop :=
  ∃ v', WRel w base bw v0 (bs ++ (msb x n).take j) (((bs ++ (msb x n).take j).length + 7) / 8) v' wr
theorem or_put (y b sh : Nat) (hy : y < 256) (hb : b ≤ 1) (hs : sh < 8) :
    Go.bits BinOp.or IntKind.u8 (y : Int) (IntKind.u8.wrap ((b : Int) * 2 ^ sh)) = ((y ||| (b * 2 ^ sh) : Nat) : Int) := by
  have h1 : b * 2 ^ sh < 256 := by
    have h2 : 2 ^ sh ≤ 2 ^ 7 := Nat.pow_le_pow_right (by omega) (by omega)
    have h3 : b * 2 ^ sh ≤ 1 * 2 ^ sh := Nat.mul_le_mul_right _ hb
    omega
  have e : ((b : Int) * 2 ^ sh) = ((b * 2 ^ sh : Nat) : Int) := by norm_cast
  rw [e, IntKind.wrap_u8', show (((b * 2 ^ sh : Nat) : Int) % 256) = ((b * 2 ^ sh : Nat) : Int) by omega]
  exact u8_or_nat y (b * 2 ^ sh) hy h1

set_option maxHeartbeats 400000 in
theorem word_walk (x n : Nat) (w : World) (base bw : Nat) (v : Value) (bs : List Bool) (h : PX w base bw v bs ((bs.length + 7) / 8)) (hn : n ≤ 12) (hbl : bs.length < 10000000) :
    Calls Tryd.prog 10 #[.pointer (some ⟨bw, 0, none⟩), .int .i64 (x : Int), .int .i64 (n : Int)] w fun e w' => e = .returned (.tuple #[]) ∧ WLoop w base bw v bs x n n w' := by
  obtain ⟨i5, hi5, hz0, hz1, hz2⟩ := info_parts info5
  have H := Lib.hid h; clear h
  go_enter Tryd.func10, Tryd.ntmps10
  go_wp2
  go_loopg [6] (n + 1) (fun gk i wr => ∃ j : Nat, gk = n + 1 - j ∧ j ≤ n ∧ i = .int .i64 ((n : Int) - 1 - j) ∧ WLoop w base bw v bs x n j wr)
  case atStart => exact ⟨0, by omega, by omega, by simp, v, by simpa using WRel.start H.out⟩
  case round =>
    obtain ⟨j, hgk, hj, rfl, v', hp⟩ := hrel
    have Hgk := Lib.hid hgk; clear hgk
    have c0 : wr.cell? ⟨bw, 0, none⟩ = some v' := by rw [cell_blk hp.px.blk]; rfl
    have c1 : wr.cell? ⟨bw, 1, none⟩ = some (.int .i64 ((bs ++ (msb x n).take j).length : Nat)) := by rw [cell_blk hp.px.blk]; rfl
    have f0 := frz_blk hp.px.blk 0
    have hlen : (bs ++ (msb x n).take j).length ≤ 10000012 := by simp; omega
    have hbase := hp.px.hb
    by_cases hlt : j < n
    · have hnext := msb_take x n j hlt
      have hnx : bs ++ (msb x n).take (j + 1) = (bs ++ (msb x n).take j) ++ [x.testBit (n - 1 - j)] := by rw [hnext, List.append_assoc]
      clear hnext
      generalize hbs : bs ++ (msb x n).take j = ds at *
      have Hbs := Lib.hid hbs; clear hbs
      have Hnx := Lib.hid hnx; clear hnx
      obtain ⟨p, hpp⟩ : ∃ p : Nat, p = ds.length := ⟨_, rfl⟩
      rw [← hpp] at c1 hlen hp
      obtain ⟨kk, hkk⟩ : ∃ kk : Nat, (n : Int) - 1 - j = kk := ⟨n - 1 - j, by omega⟩
      have hk12 : kk < 12 := by omega
      have hk2 : kk = n - 1 - j := by omega
      obtain ⟨q, hq⟩ : ∃ q : Nat, q = p / 8 := ⟨_, rfl⟩
      obtain ⟨r, hr⟩ : ∃ r : Nat, r = p % 8 := ⟨_, rfl⟩
      have hq' : ((p : Int) / 8) = q := by omega
      have hr' : Go.bits BinOp.and IntKind.i64 (p : Int) 7 = r := by rw [and7, hr]
      have hr8 : r < 8 := by omega
      have hpq : (p + 7) / 8 ≤ 2000000 := by omega
      have hpr : p = 8 * q + r := by omega
      have hown := hp.px.own
      have Hpp := Lib.hid hpp; clear hpp
      have HP := Lib.hid hp; clear hp
      have Hk2 := Lib.hid hk2; clear hk2
      rw [hkk]
      have Hkk := Lib.hid hkk; clear hkk
      have Hq := Lib.hid hq; clear hq
      have Hr := Lib.hid hr; clear hr
      have Hpr := Lib.hid hpr; clear hpr
      go_upto_if 18 with fail
      go_cut [] (fun wx => ∃ g cap, WRel w base bw v ds (q + 1) (.slice (some ⟨g, 0, none⟩) (q + 1) cap) wx)
      case first =>
        by_cases h8 : r = 0
        · subst h8
          have hm : (p + 7) / 8 = q := by have := Hpr.out; omega
          rw [hm] at hown
          have Hm := Lib.hid hm; clear hm
          go_wp2_with (at_builtin; refine wpList_append_fresh _ rfl _ _ 22 rfl base 5 i5 (.int .u8 0) 1 Tryd.underlying22 hi5 hz0 hz1 hz2 rfl _ _ _ rfl (hown.alloc _) ⟨wr.heap.size, 0, none⟩ 1 1 [.int .u8 0] rfl rfl ?c1 ?c2 ?c3 ?c4 ?c5 ?_)
          case c1 => exact cell_new1 _ _ _
          case c2 => intro u hu; simp at hu; subst hu; rfl
          case c3 => unfold maxLen; omega
          case c4 => omega
          case c5 => simp; omega
          intro v2 w2 hown2 hk2 hob2
          have k1 : Kp (fun k => v'.ownBlock = some k) wr w2 := ((Kp.refl _ wr).alloc _).trans hk2 (fun _ _ x => x)
          have hob : ∀ g, v2.ownBlock = some g → v'.ownBlock = some g ∨ wr.heap.size ≤ g := fun g hg => (hob2 g hg).imp id (fun h' => by omega)
          have hlt2 := HP.out.px.lt
          have hbw2 : w2.heap[bw]? = some (.cells #[v', .int .i64 (ds.length : Nat)] 42 (0,0)) := k1.heap HP.out.px.blk (fun e => by have := (hown.lt _ e).1; omega)
          obtain ⟨g, cap, hv2, hgb, hgl⟩ := owns_slice hown2 (by omega)
          have d0 : w2.cell? ⟨bw, 0, none⟩ = some v' := by rw [cell_blk hbw2]; rfl
          have f0 := frz_blk hbw2 0
          have HW : Hid (WRel w base bw v ds (q + 1) v2 (w2.setCell ⟨bw, 0, none⟩ v2)) := by
            have hP := HP.out
            have hm := Hm.out
            rw [hm] at hP
            exact hP.push (by have := Hpp.out; have := Hpr.out; omega) k1 hown2 hob
          clear hbw2 k1 hk2 hob2 hown2 hob
          subst hv2
          go_wp2
          go_meet
          case rel => exact ⟨g, cap, HW.out⟩
        · have h8' : ((r : Int) == 0) = false := by simp; omega
          have hm : (p + 7) / 8 = q + 1 := by have := Hpr.out; omega
          rw [hm] at hown
          obtain ⟨g, cap, hv2, hgb, hgl⟩ := owns_slice hown (by omega)
          have Hm := Lib.hid hm; clear hm
          go_wp2
          go_meet
          case rel =>
            refine ⟨g, cap, ?_⟩
            have hP := HP.out
            rw [Hm.out, hv2] at hP
            exact hP
      case rest =>
        obtain ⟨g, cap, hwx⟩ := hcut
        clear c0 c1 f0
        have hgb : base ≤ g := (hwx.px.own.lt g rfl).1
        have hlt2 := hwx.px.lt
        have d0 : wc.cell? ⟨bw, 0, none⟩ = some (.slice (some ⟨g, 0, none⟩) (q + 1) cap) := by rw [cell_blk hwx.px.blk]; rfl
        have d1 : wc.cell? ⟨bw, 1, none⟩ = some (.int .i64 (p : Nat)) := by rw [cell_blk hwx.px.blk, Hpp.out]; rfl
        obtain ⟨y, hy0⟩ : ∃ y, y = byteAt ds q := ⟨_, rfl⟩
        have d2 : wc.cell? ⟨g, q, none⟩ = some (.int .u8 (y : Nat)) := by
          rw [hwx.px.own.cellAt q (by omega), u8v_get, hy0]
          simp [pack]
        have e0 : wc.frozen? ⟨g, q, none⟩ = false := hwx.px.own.frozenAt q
        have e1 : wc.frozen? ⟨bw, 1, none⟩ = false := frz_blk hwx.px.blk 1
        have hy : y < 256 := by rw [hy0]; exact byteAt_lt ds q
        have hqq : (q : Int) < (q : Int) + 1 := by omega
        have hb := and_bit x kk
        obtain ⟨b, hbb⟩ : ∃ b, b = (x.testBit kk).toNat := ⟨_, rfl⟩
        have hb1 : b ≤ 1 := by rw [hbb]; exact toNat_le _
        rw [← hbb] at hb
        have hbw : IntKind.u8.wrap (b : Int) = b := by rw [IntKind.wrap_u8']; omega
        obtain ⟨sh, hsh⟩ : ∃ sh : Nat, (7 : Int) - r = sh := ⟨7 - r, by omega⟩
        have hsh8 : sh < 8 := by omega
        have hshw : IntKind.i64.wrap (sh : Int) = sh := IntWalk.i64_in _ (by omega)
        have hor := or_put y b sh hy hb1 hsh8
        obtain ⟨z, hz⟩ : ∃ z, z = y ||| (b * 2 ^ sh) := ⟨_, rfl⟩
        rw [← hz] at hor
        have HW : Hid (WRel w base bw v (ds ++ [x.testBit kk]) (((ds ++ [x.testBit kk]).length + 7) / 8) (.slice (some ⟨g, 0, none⟩) (q + 1) cap) ((wc.setCell ⟨g, q, none⟩ (.int .u8 (z : Nat))).setCell ⟨bw, 1, none⟩ (.int .i64 ((p : Nat) + 1 : Int)))) := by
          have := hwx.bit (by have := Hq.out; have := Hpp.out; omega) (by have := Hr.out; have := Hpp.out; omega) hsh (x.testBit kk)
          rw [← hbb, ← hy0, ← hz, ← Hpp.out] at this
          exact this
        have hne : ¬ bw = g := by omega
        clear hwx
        have Hz := Lib.hid hz; clear hz
        have Hbb := Lib.hid hbb; clear hbb
        have Hy0 := Lib.hid hy0; clear hy0
        go_upto_region 5 with fail
        refine wp_region_still_tail 25 (by kernel_rfl) (by kernel_rfl) ?_
        simp only [List.take_succ_cons, List.take_zero, List.drop_succ_cons, List.drop_zero]
        repeat still_step
        refine wpStill_nil ?_
        change wpList _ _ _ _ _ wc.drew
        clear hor hb hbw hsh hshw
        go_wp2
        go_roundg (n - j)
        case measure => have := Hgk.out; omega
        case rel =>
          refine ⟨j + 1, by omega, by omega, by have := Hkk.out; have e : (n : Int) - 1 - (j + 1 : Nat) = (kk : Int) - 1 := by omega
                                                rw [e], .slice (some ⟨g, 0, none⟩) (q + 1) cap, ?_⟩
          rw [Hnx.out, ← Hk2.out]
          exact HW.out.of_drew
    · have hjn : j = n := by omega
      subst hjn
      have hlt2 : ¬ (0 : Int) ≤ (j : Int) - 1 - j := by omega
      go_wp2
      refine bodyPost_end (results_none rfl _ _ _) rfl ?_
      exact ⟨rfl, v', hp⟩
/-- the contract, as callers take it -/
def Wrote (w : World) (base bw : Nat) (v0 : Value) (bs : List Bool) (wr : World) : Prop :=
  ∃ v', WRel w base bw v0 bs ((bs.length + 7) / 8) v' wr
theorem word_any (x n : Nat) (w : World) (base bw : Nat) (v : Value) (bs : List Bool) (h : PX w base bw v bs ((bs.length + 7) / 8)) (hn : n ≤ 12) (hbl : bs.length < 10000000) :
    Calls Tryd.prog 10 #[.pointer (some ⟨bw, 0, none⟩), .int .i64 (x : Int), .int .i64 (n : Int)] w fun e w' => e = .returned (.tuple #[]) ∧ Wrote w base bw v (bs ++ msb x n) w' := by
  refine (word_walk x n w base bw v bs h hn hbl).mono fun e w' ⟨he, v', hr⟩ => ⟨he, v', ?_⟩
  rw [List.take_of_length_le (by simp)] at hr
  exact hr
end Go.Proofs.YtgghadfelagghaaDoor

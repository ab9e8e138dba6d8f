/-
  The loops of decode's switch: the chain of a code is written from the right to the left; the head of the last word is sought.
  Conditions: the table tells a word for the code; it has at most 3838 bytes.
-/
import Derived.Test.YtgghadfelagghaaDoorRound
import Derived.StillTailTactics
import Derived.Deep.LoopGhost
namespace Go.Proofs.YtgghadfelagghaaDoor
open Go Go.RowKit
theorem Tab.big {suf pre : Nat → Nat} {m c : Nat} {w : List Nat} (h : Tab suf pre m c w) (hc : 256 ≤ c) : 258 ≤ c ∧ c < m ∧ pre c < c ∧ ∃ w', Tab suf pre m (pre c) w' ∧ w = w' ++ [suf c] := by
  cases h with
  | lit c h => omega
  | ent c w h hm hp hw => exact ⟨h, hm, hp, w, hw, rfl⟩
theorem Tab.small {suf pre : Nat → Nat} {m c : Nat} {w : List Nat} (h : Tab suf pre m c w) (hc : c < 256) : w = [c] := by
  cases h with
  | lit c h => rfl
  | ent c w h hm hp hw => omega
/-- while the chain of a code is written, from the right to the left -/
structure Chain (bd br : Nat) (v2 : Value) (s : DS) (m : Nat) (W : List Nat) (w : World) (n : Nat) (a : Act) (wr : World) : Prop where
  ex : ∃ c i w0 sfx out, n = c ∧ Fr (.pointer (some ⟨bd, 0, none⟩)) (.int .u16 (c : Nat)) (.int .i64 (i : Nat)) a ∧ DW bd br { s with out := out } wr ∧ Tab s.suf s.pre m c w0 ∧ w0 ++ sfx = W ∧ i + 1 + sfx.length = 8192 ∧
    (∀ j x, sfx[j]? = some x → out (i + 1 + j) = x) ∧ (∀ j, j < 4096 → out j = s.out j)
  s2 : a.tmps[2]? = some v2
  kp : Kp (fun k => k = bd) w wr
/-- its end: the first byte is at hand -/
structure ChainEnd (bd br : Nat) (v2 : Value) (s : DS) (W : List Nat) (w : World) (a : Act) (wr : World) : Prop where
  ex : ∃ c i sfx out, c < 256 ∧ Fr (.pointer (some ⟨bd, 0, none⟩)) (.int .u16 (c : Nat)) (.int .i64 (i : Nat)) a ∧ DW bd br { s with out := out } wr ∧ c :: sfx = W ∧ i + 1 + sfx.length = 8192 ∧
    (∀ j x, sfx[j]? = some x → out (i + 1 + j) = x) ∧ (∀ j, j < 4096 → out j = s.out j)
  s2 : a.tmps[2]? = some v2
  kp : Kp (fun k => k = bd) w wr
noncomputable def ch5 : Code := (blockIn 5 swcode).getD .skip
set_option maxRecDepth 100000 in
set_option maxHeartbeats 1600000 in
theorem chain_any (bd br : Nat) (v2 : Value) (s : DS) (m : Nat) (hm : m ≤ 4093) (W : List Nat) (hW : W.length ≤ 3838) (w : World) (a : Act) (n : Nat) (wr : World) (h : Chain bd br v2 s m W w n a wr)
    (K : Act → World → Prop) (Q : Exit → Act → World → Prop) (hK : ∀ a w', ChainEnd bd br v2 s W w a w' → K a w') : Code.wp Tryd.prog ch5 (Exit.then K Q) a wr := by
  conv => arg 2; whnf
  refine wp_block ?_
  refine wp_loop_ghost_k (fun n a wr => Chain bd br v2 s m W w n a wr) n h ?_
  clear h
  intro c a wr hI J K' hJ hK'
  obtain ⟨⟨c', i, w0, sfx, out, rfl, hfr, hdw, htab, hws, hi, hsfx, hlow⟩, hs2, hkp⟩ := hI
  obtain ⟨v1, v2', v3, f, rfl⟩ := hfr.open
  have e2 : v2' = v2 := Option.some.inj hs2
  subst e2
  unfold FA
  have d7 : wr.cell? ⟨bd, 7, none⟩ = some (.int .u16 256) := hdw.cell fun C hc => hc.c7
  have hwl : w0.length + sfx.length ≤ 3838 := by rw [← List.length_append, hws]; exact hW
  have hi4 : 4096 < i := by omega
  have hi8 : (i : Int) < 8192 := by omega
  have Hdw := Lib.hid hdw; clear hdw
  have Htab := Lib.hid htab; clear htab
  have Hws := Lib.hid hws; clear hws
  have Hi := Lib.hid hi; clear hi
  have Hsfx := Lib.hid hsfx; clear hsfx
  have Hlow := Lib.hid hlow; clear hlow
  have Hkp := Lib.hid hkp; clear hkp
  have HJ := Lib.hid hJ; clear hJ
  clear hfr hs2
  by_cases hc : 256 ≤ c
  · obtain ⟨h1, h2, h3, w0', h4, h5⟩ := Htab.out.big hc
    have hc4 : c < 4093 := by omega
    have hci : (c : Int) < 4096 := by omega
    have dsuf : wr.cell? ⟨bd, 12 + c, none⟩ = some (.int .u8 (s.suf c : Nat)) := Hdw.out.cell fun C hC => hC.csuf c (by omega)
    have dpre : wr.cell? ⟨bd, 4108 + c, none⟩ = some (.int .u16 (s.pre c : Nat)) := Hdw.out.cell fun C hC => hC.cpre c (by omega)
    have dout : wr.cell? ⟨bd, 8204 + i, none⟩ = some (.int .u8 (out i : Nat)) := Hdw.out.cell fun C hC => hC.cout i (by omega)
    have g1 := Hdw.out.frz (8204 + i)
    have H5 := Lib.hid h5; clear h5
    have H4 := Lib.hid h4; clear h4
    obtain ⟨pc, hpc⟩ : ∃ pc, s.pre c = pc := ⟨_, rfl⟩
    obtain ⟨sc, hsc⟩ : ∃ sc, s.suf c = sc := ⟨_, rfl⟩
    rw [hpc] at dpre h3
    rw [hsc] at dsuf
    have Hpc := Lib.hid hpc; clear hpc
    have Hsc := Lib.hid hsc; clear hsc
    go_wp2_with fail
    refine wp_region_still_tail 11 (by kernel_rfl) (by kernel_rfl) ?_
    simp only [List.take_succ_cons, List.take_zero, List.drop_succ_cons, List.drop_zero]
    repeat still_step
    refine wpStill_nil ?_
    change wpList _ _ _ _ _ wr.drew
    go_wp2_with fail
    refine Handed.intro pc h3 (HJ.out _ _ _ ⟨⟨pc, i - 1, w0', sc :: sfx, upd out i sc, rfl, ⟨rfl, rfl, rfl, rfl, by rw [show ((i - 1 : Nat) : Int) = (i : Int) - 1 by omega]; rfl⟩, (Hdw.out.set fun C hC => hC.setOut i sc (by omega)).drew, Hpc.out ▸ H4.out, ?_, ?_, ?_, ?_⟩, rfl, (Hkp.out.st _ _).drew⟩)
    · rw [← Hws.out, H5.out, Hsc.out, List.append_assoc]; rfl
    · have := Hi.out; rw [List.length_cons]; omega
    · intro j x hx
      cases j with
      | zero =>
        have e : i - 1 + 1 + 0 = i := by omega
        rw [e, upd_self]
        exact Option.some.inj hx
      | succ j =>
        have e : i - 1 + 1 + (j + 1) = i + 1 + j := by omega
        rw [e, upd_other _ _ _ _ (by omega)]
        exact Hsfx.out j x hx
    · intro j hj
      rw [upd_other _ _ _ _ (by omega)]
      exact Hlow.out j hj
  · go_wp2_with fail
    have hs := Htab.out.small (by omega)
    exact ⟨⟨c, i, sfx, out, by omega, ⟨rfl, rfl, rfl, rfl, rfl⟩, Hdw.out, by rw [← Hws.out, hs]; rfl, Hi.out, Hsfx.out, Hlow.out⟩, rfl, Hkp.out⟩

/-- while the head of a word is sought -/
structure Head (bd : Nat) (v2 v5 : Value) (s : DS) (m hd n : Nat) (w : World) (a : Act) (wr : World) : Prop where
  ex : ∃ c w0, n = c ∧ Fr (.pointer (some ⟨bd, 0, none⟩)) (.int .u16 (c : Nat)) v5 a ∧ Tab s.suf s.pre m c w0 ∧ w0.headD 0 = hd
  s2 : a.tmps[2]? = some v2
  same : w = wr
structure HeadEnd (bd : Nat) (v2 v5 : Value) (hd : Nat) (w : World) (a : Act) (wr : World) : Prop where
  fr : Fr (.pointer (some ⟨bd, 0, none⟩)) (.int .u16 (hd : Nat)) v5 a
  s2 : a.tmps[2]? = some v2
  same : w = wr
  lt : hd < 256
noncomputable def ch3 : Code := (blockIn 3 swcode).getD .skip
theorem Tab.head_lt {suf pre : Nat → Nat} {m c : Nat} {w : List Nat} (h : Tab suf pre m c w) : w.headD 0 < 256 := by
  induction h with
  | lit c h => exact h
  | ent c w h hm hp hw ih => rw [head_append w _ hw.ne]; exact ih
set_option maxRecDepth 100000 in
set_option maxHeartbeats 1600000 in
theorem head_any (bd br : Nat) (v2 v5 : Value) (s : DS) (m hd : Nat) (hm : m ≤ 4093) (w : World) (hdw : DW bd br s w) (a : Act) (n : Nat) (wr : World) (h : Head bd v2 v5 s m hd n w a wr)
    (K : Act → World → Prop) (Q : Exit → Act → World → Prop) (hK : ∀ a w', HeadEnd bd v2 v5 hd w a w' → K a w') : Code.wp Tryd.prog ch3 (Exit.then K Q) a wr := by
  conv => arg 2; whnf
  refine wp_block ?_
  refine wp_loop_ghost_k (fun n a wr => Head bd v2 v5 s m hd n w a wr) n h ?_
  clear h
  intro c a wr hI J K' hJ hK'
  obtain ⟨⟨c', w0, rfl, hfr, htab, hhd⟩, hs2, rfl⟩ := hI
  obtain ⟨v1, v2', v3, f, rfl⟩ := hfr.open
  have e2 : v2' = v2 := Option.some.inj hs2
  subst e2
  unfold FA
  have d7 : w.cell? ⟨bd, 7, none⟩ = some (.int .u16 256) := hdw.cell fun C hc => hc.c7
  have Hdw := Lib.hid hdw; clear hdw
  have Htab := Lib.hid htab; clear htab
  have Hhd := Lib.hid hhd; clear hhd
  have HJ := Lib.hid hJ; clear hJ
  clear hfr hs2
  by_cases hc : 256 ≤ c
  · obtain ⟨h1, h2, h3, w0', h4, h5⟩ := Htab.out.big hc
    have hc4 : c < 4093 := by omega
    have hci : (c : Int) < 4096 := by omega
    have dpre : w.cell? ⟨bd, 4108 + c, none⟩ = some (.int .u16 (s.pre c : Nat)) := Hdw.out.cell fun C hC => hC.cpre c (by omega)
    have H5 := Lib.hid h5; clear h5
    have H4 := Lib.hid h4; clear h4
    obtain ⟨pc, hpc⟩ : ∃ pc, s.pre c = pc := ⟨_, rfl⟩
    rw [hpc] at dpre h3
    have Hpc := Lib.hid hpc; clear hpc
    go_wp2_with fail
    refine Handed.intro pc h3 (HJ.out _ _ _ ⟨⟨pc, w0', rfl, ⟨rfl, rfl, rfl, rfl, rfl⟩, Hpc.out ▸ H4.out, ?_⟩, rfl, rfl⟩)
    rw [← Hhd.out, H5.out, head_append w0' _ H4.out.ne]
  · go_wp2_with fail
    have hs := Htab.out.small (by omega)
    have hh : c = hd := by rw [← Hhd.out, hs]; rfl
    exact ⟨⟨rfl, rfl, rfl, by rw [← hh]; rfl, rfl⟩, rfl, rfl, by omega⟩
end Go.Proofs.YtgghadfelagghaaDoor

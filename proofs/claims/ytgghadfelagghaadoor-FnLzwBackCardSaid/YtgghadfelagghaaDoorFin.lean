/-
  The switch of decode behind the chain: the word is copied to its place, and the table gets the word before with the first byte of this one.
  Conditions: what is put out is below 4096 bytes so far; the word has at most 3838 bytes.
-/
import Derived.Test.YtgghadfelagghaaDoorChain
import Derived.Test.YtgghadfelagghaaDoorCopy
import Derived.Deep.RegionLaw
import Derived.Deep.RegionHeld3
import Derived.Deep.Cut
import Derived.Deep.DeepCutAuto
namespace Go.Proofs.YtgghadfelagghaaDoor
open Go Go.RowKit
theorem outCopy_spec {s : DS} {acc W : List Nat} {o i c : Nat} {out : Nat → Nat} (h : DO s acc) (hol : acc.length = o) (hlow : ∀ j, j < 4096 → out j = s.out j) (ho : o < 4096) (hi : 4096 < i) :
    ∀ j x, (acc ++ W)[j]? = some x → outCopy (upd out i c) o W.length W j = x := by
  intro j x hx
  unfold outCopy
  by_cases hj : j < acc.length
  · rw [List.getElem?_append_left hj] at hx
    rw [if_neg (by omega), upd_other _ _ _ _ (by omega), hlow j (by omega)]
    exact h.out j x hx
  · rw [List.getElem?_append_right (by omega)] at hx
    have hl := (List.getElem?_eq_some_iff.1 hx).1
    rw [if_pos (by omega), List.getD_eq_getElem?_getD, ← hol, hx]
    rfl
/-- what follows block n -/
def after (n : Nat) : Code → Option Code
  | .seq x y => match x with
    | .block k _ => if k = n then some y else (after n x).or (after n y)
    | _ => (after n x).or (after n y)
  | .block _ c => after n c
  | .loop c => after n c
  | .cond _ x y => (after n x).or (after n y)
  | _ => none
noncomputable def rest5 : Code := (after 5 swcode).getD .skip
set_option maxRecDepth 100000 in
set_option maxHeartbeats 1600000 in
theorem fin_any (bd br code : Nat) (s : DS) (D : List (List Nat)) (lc : Nat) (lw0 W acc : List Nat) (w : World) (hinv : DInv s.suf s.pre D (some (lc, lw0))) (hv : Valid D (some (lc, lw0)) code W) (hlast : s.last = lc) (hhi : s.hi = 258 + D.length) (hfew : D.length + 258 ≤ 4092)
    (ho : DO s acc) (hacc : acc.length < 4096) (hW : W.length ≤ 3838) (a : Act) (wr : World) (hce : ChainEnd bd br (.int .u16 (code : Nat)) s W w a wr)
    (Q : Exit → Act → World → Prop) (hK : ∀ a w', Mid bd br code s (D ++ [lw0 ++ [W.headD 0]]) W (acc ++ W) w a w' → Q .normal a w') : Code.wp Tryd.prog rest5 Q a wr := by
  conv => arg 2; whnf
  obtain ⟨⟨c, i, sfx, out, hc, hfr, hdw, hws, hi, hsfx, hlow⟩, hs2, hkp⟩ := hce
  obtain ⟨v1, v2', v3, f, rfl⟩ := hfr.open
  have e2 : v2' = .int .u16 (code : Nat) := Option.some.inj hs2
  subst e2
  unfold FA
  have hlc : lc < 4093 := by have := (hinv.seen lc lw0 rfl).code; omega
  obtain ⟨hi9, hhi2⟩ : ∃ hi9, s.hi = hi9 := ⟨_, rfl⟩
  have hhi4 : hi9 ≤ 4092 := by omega
  have hhD : hi9 = 258 + D.length := by omega
  obtain ⟨o, hol⟩ : ∃ o, acc.length = o := ⟨_, rfl⟩
  have hso : s.o = o := ho.o.trans hol
  have ho4 : o < 4096 := by omega
  have hwl : W.length = sfx.length + 1 := by rw [← hws]; rfl
  have hi4 : 4096 < i := by omega
  have hi8 : (i : Int) < 8192 := by omega
  have hcw : IntKind.u8.wrap (c : Int) = c := by rw [IntKind.wrap_u8']; omega
  have dout : wr.cell? ⟨bd, 8204 + i, none⟩ = some (.int .u8 (out i : Nat)) := hdw.cell fun C hC => hC.cout i (by omega)
  have g1 := hdw.frz (8204 + i)
  have hsfx2 : ∀ j x, W[j]? = some x → upd out i c (i + j) = x := by
    intro j x hx
    rw [← hws] at hx
    cases j with
    | zero => rw [Nat.add_zero, upd_self]; exact Option.some.inj hx
    | succ j => rw [upd_other _ _ _ _ (by omega), show i + (j + 1) = i + 1 + j by omega]; exact hsfx j x hx
  have hhead : W.headD 0 = c := by rw [← hws]; rfl
  have Hdw := Lib.hid hdw; clear hdw
  have Hinv := Lib.hid hinv; clear hinv
  have Hv := Lib.hid hv; clear hv
  have Ho := Lib.hid ho; clear ho
  have Hol := Lib.hid hol; clear hol
  have Hlast := Lib.hid hlast; clear hlast
  have Hhi2 := Lib.hid hhi2; clear hhi2
  have HhD := Lib.hid hhD; clear hhD
  have Hws := Lib.hid hws; clear hws
  have Hi := Lib.hid hi; clear hi
  have Hlow := Lib.hid hlow; clear hlow
  have Hkp := Lib.hid hkp; clear hkp
  have Hsfx2 := Lib.hid hsfx2; clear hsfx2
  have Hwl := Lib.hid hwl; clear hwl
  have Hso := Lib.hid hso; clear hso
  have Hhead := Lib.hid hhead; clear hhead
  clear hfr hs2 hsfx hhi hacc
  go_upto_region 33 with fail
  obtain ⟨W1, hW1⟩ : ∃ W1, wr.setCell ⟨bd, 8204 + i, none⟩ (.int .u8 (c : Nat)) = W1 := ⟨_, rfl⟩
  have hd1 : DW bd br { s with out := upd out i c } W1 := hW1 ▸ Hdw.out.set fun C hC => hC.setOut i c (by omega)
  have hk1 : Kp (fun k => k = bd) w W1 := hW1 ▸ Hkp.out.st _ _
  rw [hW1]
  clear hW1 dout g1
  have d15 : W1.cell? ⟨bd, 16396, none⟩ = some (.int .i64 (o : Nat)) := hd1.cell fun C hC => Hso.out ▸ hC.co
  have g15 := hd1.frz 16396
  have hin : i + W.length = 8192 := by have := Hi.out; have := Hwl.out; omega
  have hoi : (o : Int) ≤ 8192 := by omega
  have h8o : ¬ 8192 = o := by omega
  have hsum : IntKind.i64.wrap ((o : Int) + (W.length : Int)) = (o : Int) + (W.length : Int) := IntWalk.i64_in _ (by omega)
  have h8i : ¬ 8192 = i := by have := Hi.out; omega
  have hii : (i : Int) ≤ 8192 := by omega
  have Hd1 := Lib.hid hd1; clear hd1
  have Hk1 := Lib.hid hk1; clear hk1
  have Hin := Lib.hid hin; clear hin
  refine wp_cut (fun a' w' => Fr (.pointer (some ⟨bd, 0, none⟩)) (.int .u16 (c : Nat)) (.int .i64 (i : Nat)) a' ∧ a'.tmps[2]? = some (.int .u16 (code : Nat)) ∧ DW bd br { s with out := outCopy (upd out i c) o W.length W, o := o + W.length } w' ∧ Kp (fun k => k = bd) w w') ?rest ?first
  case first =>
   intro J K' hJ hM
   have HJ := Lib.hid hJ; clear hJ
   refine wp_region_noPanic ?_
   go_region_law (refine step_copy_out rfl _ _ rfl bd br _ Hd1.out.drew o i W _ _ _ _ rfl rfl ?_ ?_ ?_ ?_ ?_ ?_; (have := Hin.out; omega); (have := Hin.out; omega); exact Hin.out; omega; exact Hsfx2.out; intro W4 hd4 hk4; have e15 : W4.cell? ⟨bd, 16396, none⟩ = some (.int .i64 (o : Nat)) := (hd4.cell fun C hC => Hso.out ▸ hC.co); have e16 := hd4.frz 16396; have Hd4 := Lib.hid hd4; have Hk4 := Lib.hid hk4; clear hd4 hk4)
   all_goals refine NoPanic.normal ?_
   all_goals simp only [Exit.then]
   all_goals refine hM _ _ (Met.intro (HJ.out _ _ ⟨⟨rfl, rfl, rfl, rfl, rfl⟩, rfl, ?_, ?_⟩))
   all_goals first
     | exact Hd4.out.set fun C hC => hC.setO (o + W.length)
     | exact (Hk1.out.drew.trans Hk4.out (fun _ _ e => e)).st _ _
  case rest =>
   clear d15 g15 hoi hii h8o hsum h8i
   intro a' w' hR
   obtain ⟨hfr2, hs22, hd2, hk2⟩ := hR
   obtain ⟨y1, y2, y3, f2, rfl⟩ := hfr2.open
   have e2 : y2 = .int .u16 (code : Nat) := Option.some.inj hs22
   subst e2
   unfold FA
   have d9 : w'.cell? ⟨bd, 9, none⟩ = some (.int .u16 (hi9 : Nat)) := hd2.cell fun C hc => Hhi2.out ▸ hc.c9
   have d11 : w'.cell? ⟨bd, 11, none⟩ = some (.int .u16 (lc : Nat)) := hd2.cell fun C hc => Hlast.out ▸ hc.c11
   have dsuf : w'.cell? ⟨bd, 12 + hi9, none⟩ = some (.int .u8 (s.suf hi9 : Nat)) := hd2.cell fun C hc => hc.csuf hi9 (by omega)
   have g1 := hd2.frz (12 + hi9)
   have hhii : (hi9 : Int) < 4096 := by omega
   have Hd2 := Lib.hid hd2; clear hd2
   have Hk2 := Lib.hid hk2; clear hk2
   clear hfr2 hs22
   go_upto_region 35 with fail
   refine wp_region_still_tail 10 (by kernel_rfl) (by kernel_rfl) ?_
   simp only [List.take_succ_cons, List.take_zero, List.drop_succ_cons, List.drop_zero]
   repeat still_step
   refine wpStill_nil ?_
   change wpList _ _ _ _ _ w'.drew
   go_upto_region 36 with fail
   obtain ⟨W3, hW3⟩ : ∃ W3, (w'.setCell ⟨bd, 12 + hi9, none⟩ (.int .u8 (c : Nat))).drew = W3 := ⟨_, rfl⟩
   have hdW3 : DW bd br { s with suf := upd s.suf hi9 c, out := outCopy (upd out i c) o W.length W, o := o + W.length } W3 := hW3 ▸ (Hd2.out.set fun C hC => hC.setSuf hi9 c (by omega)).drew
   have hkW3 : Kp (fun k => k = bd) w W3 := hW3 ▸ (Hk2.out.st _ _).drew
   rw [hW3]
   clear hW3 d9 d11 dsuf g1
   have d9 : W3.cell? ⟨bd, 9, none⟩ = some (.int .u16 (hi9 : Nat)) := hdW3.cell fun C hc => Hhi2.out ▸ hc.c9
   have d11 : W3.cell? ⟨bd, 11, none⟩ = some (.int .u16 (lc : Nat)) := hdW3.cell fun C hc => Hlast.out ▸ hc.c11
   have dpre : W3.cell? ⟨bd, 4108 + hi9, none⟩ = some (.int .u16 (s.pre hi9 : Nat)) := hdW3.cell fun C hc => hc.cpre hi9 (by omega)
   have g2 := hdW3.frz (4108 + hi9)
   have HdW3 := Lib.hid hdW3; clear hdW3
   have HkW3 := Lib.hid hkW3; clear hkW3
   refine wp_region_still_tail 12 (by kernel_rfl) (by kernel_rfl) ?_
   simp only [List.take_succ_cons, List.take_zero, List.drop_succ_cons, List.drop_zero]
   repeat still_step
   refine wpStill_nil ?_
   change wpList _ _ _ _ _ W3.drew
   go_wp2_with fail
   have hinv2 := Hinv.out.next Hv.out
   rw [← HhD.out, Hhead.out] at hinv2
   rw [Hhead.out] at *
   exact ⟨⟨rfl, rfl, rfl⟩, rfl, ⟨upd s.suf hi9 c, upd s.pre hi9 lc, outCopy (upd out i c) o W.length W, o + W.length, (HdW3.out.set fun C hC => hC.setPre hi9 lc (by omega)).drew, hinv2, ⟨by rw [List.length_append, Hol.out], outCopy_spec Ho.out Hol.out Hlow.out ho4 hi4⟩⟩, (HkW3.out.st _ _).drew⟩
end Go.Proofs.YtgghadfelagghaaDoor

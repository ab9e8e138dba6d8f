/-
  A round of decode at a code that tells a word.
  Conditions: those of Env; at most 4093 codes are known behind it.
-/
import Derived.Test.YtgghadfelagghaaDoorSwitch
import Derived.Test.YtgghadfelagghaaDoorLit
import Derived.BigQuiet
namespace Go.Proofs.YtgghadfelagghaaDoor
open Go Go.RowKit
theorem wp_fa {P : Program} {C : Code} {Q : Exit → Act → World → Prop} {p v2 : Value} {a : Act} {w : World} (h0 : Fr0 p a) (h2 : a.tmps[2]? = some v2) (h : ∀ v1 v3 v4 v5 f, C.wp P Q (FA p v1 v2 v3 v4 v5 f) w) : C.wp P Q a w := by
  obtain ⟨v1, v2', v3, v4, v5, f, rfl⟩ := h0.open
  have e2 : v2' = v2 := Option.some.inj h2
  subst e2
  exact h v1 v3 v4 v5 f
theorem sw_any (bd br c : Nat) (s : DS) (D : List (List Nat)) (last : Option (Nat × List Nat)) (W acc : List Nat) (w2 : World) (hdw : DW bd br s w2) (hinv : DInv s.suf s.pre D last) (hv : Valid D last c W)
    (hlast : s.last = lastOf last) (hhi : s.hi = hiOf D last) (hfew : (ext D last W).length + 258 ≤ 4093)
    (ho : DO s acc) (hacc : acc.length < 4096) (v1 v3 v4 v5 : Value) (f : Nat → Value) (K : Act → World → Prop) (Q : Exit → Act → World → Prop) (hK : ∀ a w, Mid bd br c s (ext D last W) W (acc ++ W) w2 a w → K a w) :
    Code.wp Tryd.prog swcode (Exit.then K Q) (FA (.pointer (some ⟨bd, 0, none⟩)) v1 (.int .u16 (c : Nat)) v3 v4 v5 f) w2 := by
  cases last with
  | none =>
    have hD := hinv.fresh rfl
    subst hD
    obtain ⟨hc, rfl⟩ := hv.of_none
    exact sw_lit bd br c hc s [] acc w2 hdw hinv rfl hlast ho hacc v1 v3 v4 v5 f K Q hK
  | some pr =>
    obtain ⟨lc, lw0⟩ := pr
    have hf : D.length + 258 ≤ 4092 := by
      rw [ext_some, List.length_append, List.length_singleton] at hfew
      omega
    cases hv with
    | lit c hc => exact sw_lit2 bd br c hc s D lc lw0 acc w2 hdw hinv hlast hhi hf ho hacc v1 v3 v4 v5 f K Q hK
    | dict k W hk => exact sw_tab bd br k s D lc lw0 W acc w2 hdw hinv hk hlast hhi hf ho hacc v1 v3 v4 v5 f K Q hK
    | same lc2 lw2 h2 =>
      cases h2
      exact sw_same bd br s D lc lw0 acc w2 hdw hinv hlast hhi hf ho hacc v1 v3 v4 v5 f K Q hK
theorem lw_next (k0 k : Nat) (h : k = k0 + 1 ∨ k = k0 ∧ k0 = 258) (hk : k ≤ 4093) : (2 ^ lw k0 ≤ k + 1 → lw k0 < 12 ∧ lw k = lw k0 + 1) ∧ (k + 1 < 2 ^ lw k0 → lw k = lw k0) := by
  by_cases a1 : k0 < 511
  · have e0 : lw k0 = 9 := by unfold lw; rw [if_pos a1]
    rw [e0]
    by_cases a2 : k < 511
    · have e : lw k = 9 := by unfold lw; rw [if_pos a2]
      rw [e]; omega
    · have e : lw k = 10 := by unfold lw; rw [if_neg a2, if_pos (by omega)]
      rw [e]; omega
  · by_cases a3 : k0 < 1023
    · have e0 : lw k0 = 10 := by unfold lw; rw [if_neg a1, if_pos a3]
      rw [e0]
      by_cases a2 : k < 1023
      · have e : lw k = 10 := by unfold lw; rw [if_neg (by omega), if_pos a2]
        rw [e]; omega
      · have e : lw k = 11 := by unfold lw; rw [if_neg (by omega), if_neg a2, if_pos (by omega)]
        rw [e]; omega
    · by_cases a4 : k0 < 2047
      · have e0 : lw k0 = 11 := by unfold lw; rw [if_neg a1, if_neg a3, if_pos a4]
        rw [e0]
        by_cases a2 : k < 2047
        · have e : lw k = 11 := by unfold lw; rw [if_neg (by omega), if_neg (by omega), if_pos a2]
          rw [e]; omega
        · have e : lw k = 12 := by unfold lw; rw [if_neg (by omega), if_neg (by omega), if_neg a2]
          rw [e]; omega
      · have e0 : lw k0 = 12 := by unfold lw; rw [if_neg a1, if_neg a3, if_neg a4]
        have e : lw k = 12 := by unfold lw; rw [if_neg (by omega), if_neg (by omega), if_neg (by omega)]
        rw [e0, e]; omega
theorem Valid.lt {D : List (List Nat)} {last : Option (Nat × List Nat)} {c : Nat} {W : List Nat} (h : Valid D last c W) : c ≤ 258 + D.length := by
  cases h with
  | lit c h => omega
  | dict k w h => have := (List.getElem?_eq_some_iff.1 h).1; omega
  | same _ _ _ => omega
theorem lw_holds (k : Nat) (hk : k ≤ 4093) : k < 2 ^ lw k := by
  by_cases a1 : k < 511
  · have e : lw k = 9 := by unfold lw; rw [if_pos a1]
    rw [e]; omega
  · by_cases a2 : k < 1023
    · have e : lw k = 10 := by unfold lw; rw [if_neg a1, if_pos a2]
      rw [e]; omega
    · by_cases a3 : k < 2047
      · have e : lw k = 11 := by unfold lw; rw [if_neg a1, if_neg a2, if_pos a3]
        rw [e]; omega
      · have e : lw k = 12 := by unfold lw; rw [if_neg a1, if_neg a2, if_neg a3]
        rw [e]; omega
theorem Valid.len {suf pre : Nat → Nat} {D : List (List Nat)} {last : Option (Nat × List Nat)} {c : Nat} {W : List Nat} (h : Valid D last c W) (hi : DInv suf pre D last) (hD : 258 + D.length ≤ 4093) : W.length ≤ 3838 := by
  cases h with
  | lit c h => simp
  | dict k w h => have := (hi.words k W h).len_le hD; omega
  | same lc lw0 h => have := (hi.seen lc lw0 h).len_le hD; rw [List.length_append]; simp; omega
theorem done_dk {bd br : Nat} {sv : Value} {src : List Nat} {s : DS} {D' : List (List Nat)} {c : Nat} {W : List Nat} {B : List Bool} {l : List Nat} {w : World} (h1 : DW bd br s w) (h2 : RP br sv src 7 s.nb s.bv B w) (h3 : Str D' (some (c, W)) B l) (h4 : DInv s.suf s.pre D' (some (c, W)))
    (h5 : s.wd = lw (258 + D'.length)) (h6 : s.hi = 258 + D'.length) (h7 : s.last = c) (h8 : s.ov = 2 ^ s.wd) (h9 : s.err = .nilIface) : DK bd br sv src s D' (some (c, W)) B l w := ⟨h1, h2, h3, h4, h5, h6, h7, h8, h9⟩
set_option maxRecDepth 100000 in
set_option maxHeartbeats 1600000 in
theorem round_code (bd br b off cap : Nat) (src : List Nat) (ea : Addr) (rest0 : List Nat) (w0 wr : World) (henv : Env bd br b off cap src ea w0) (s : DS) (D : List (List Nat)) (last : Option (Nat × List Nat)) (c : Nat) (W : List Nat) (B : List Bool) (l acc : List Nat)
    (hk : DK bd br (.slice (some ⟨b, off, none⟩) src.length cap) src s D last (msb c (lw (258 + D.length)) ++ B) (W ++ l) wr) (hv : Valid D last c W) (hfew : (ext D last W).length + 258 ≤ 4093) (hstr : Str (ext D last W) (some (c, W)) B l)
    (hrest : rest0 = acc ++ (W ++ l)) (hout : DO s acc) (hacc : acc.length < 4096) (hkp : Kp (fun k => k = bd ∨ k = br) w0 wr)
    (v1 v2 v3 v4 v5 : Value) (f : Nat → Value) (gk : Nat) (hgk : gk = (msb c (lw (258 + D.length)) ++ B).length) (K : Act → World → Prop) (Q : Exit → Act → World → Prop)
    (hK : ∀ a w, RoundEnd bd br (.slice (some ⟨b, off, none⟩) src.length cap) src rest0 w0 gk a w → K a w) (hQ : ∀ a w, RoundExit bd br (.slice (some ⟨b, off, none⟩) src.length cap) src ea rest0 w0 a w → Q (.exit 0) a w) :
    Code.wp Tryd.prog dbody (Exit.then K Q) (FA (.pointer (some ⟨bd, 0, none⟩)) v1 v2 v3 v4 v5 f) wr := by
  unfold FA
  conv => arg 2; whnf
  have c0 : wr.cell? ⟨bd, 4, none⟩ = some (.func (.func 13) #[] #[]) := hk.dw.cell fun C hc => hc.c4
  have hDl : 258 + D.length ≤ 4093 := by
    cases last with
    | none => rw [ext_none] at hfew; omega
    | some pr => obtain ⟨lc, lw0⟩ := pr; rw [ext_some, List.length_append, List.length_singleton] at hfew; omega
  have hclt : c < 2 ^ lw (258 + D.length) := Nat.lt_of_le_of_lt hv.lt (lw_holds _ hDl)
  have Henv := Lib.hid henv; clear henv
  have Hrest := Lib.hid hrest; clear hrest
  have Hout := Lib.hid hout; clear hout
  have Hkp := Lib.hid hkp; clear hkp
  have Hacc := Lib.hid hacc; clear hacc
  have HK := Lib.hid hk; clear hk
  have Hgk := Lib.hid hgk; clear hgk
  have Hstr := Lib.hid hstr; clear hstr
  have Hv := Lib.hid hv; clear hv
  have Hfew := Lib.hid hfew; clear hfew
  have Hclt := Lib.hid hclt; clear hclt
  go_wp2_with fail
  refine (HK.out.next Henv.out Hkp.out Hclt.out).mono ?_
  rintro e w2 ⟨rfl, nb, bv, hdw, hrp, hk2⟩
  have Hdw := Lib.hid hdw; clear hdw
  have Hk2 := Lib.hid hk2; clear hk2
  have Hrp := Lib.hid hrp; clear hrp
  go_upto_block 2 with fail
  refine wp_fa ⟨rfl, rfl, rfl⟩ rfl ?_
  intro y1 y3 y4 y5 f2
  refine sw_any bd br c { s with bv := bv, nb := nb } D last W acc w2 Hdw.out HK.out.inv Hv.out HK.out.lst HK.out.hi Hfew.out ⟨Hout.out.o, Hout.out.out⟩ Hacc.out y1 y3 y4 y5 f2 _ _ ?_
  intro a' w3 hmid
  go_step
  obtain ⟨hfr, hs2, ⟨suf, pre, out, o, hdw3, hinv3, hout3⟩, hk3⟩ := hmid
  refine wp_fa hfr hs2 ?_
  intro y1 y3 y4 y5 f2
  unfold FA
  clear hfr hs2
  obtain ⟨k', hk'⟩ : ∃ k', 258 + (ext D last W).length = k' := ⟨_, rfl⟩
  have hk4 : k' ≤ 4093 := by have := Hfew.out; omega
  obtain ⟨h, hh⟩ : ∃ h, s.hi = h := ⟨_, rfl⟩
  have hh1 : h + 1 = k' := by
    rw [← hh, HK.out.hi, ← hk']
    cases last with
    | none => rw [ext_none, HK.out.inv.fresh rfl]; rfl
    | some pr => obtain ⟨lc, lw0⟩ := pr; rw [ext_some, List.length_append, List.length_singleton]; show 258 + D.length + 1 = _; omega
  obtain ⟨wd, hwd⟩ : ∃ wd, s.wd = wd := ⟨_, rfl⟩
  obtain ⟨ov, hov⟩ : ∃ ov, s.ov = ov := ⟨_, rfl⟩
  have hnext := lw_next (258 + D.length) k' (by
    cases last with
    | none => rw [← hk', ext_none, HK.out.inv.fresh rfl]; right; exact ⟨rfl, rfl⟩
    | some pr => obtain ⟨lc, lw0⟩ := pr; rw [← hk', ext_some, List.length_append, List.length_singleton]; left; omega) hk4
  rw [← HK.out.wd, hwd, ← hwd, ← HK.out.ov, hov, hwd] at hnext
  have hwd12 : wd ≤ 12 := by rw [← hwd, HK.out.wd]; exact lw_le _
  have hovp : ov = 2 ^ wd := by rw [← hov, HK.out.ov, hwd]
  have hov12 : ov ≤ 4096 := by rw [hovp]; exact Nat.pow_le_pow_right (by omega) hwd12
  have d3 : w3.cell? ⟨bd, 3, none⟩ = some (.int .u64 (wd : Nat)) := hdw3.cell fun C hc => hwd ▸ hc.c3
  have d9 : w3.cell? ⟨bd, 9, none⟩ = some (.int .u16 (h : Nat)) := hdw3.cell fun C hc => hh ▸ hc.c9
  have d10 : w3.cell? ⟨bd, 10, none⟩ = some (.int .u16 (ov : Nat)) := hdw3.cell fun C hc => hov ▸ hc.c10
  have d11 : w3.cell? ⟨bd, 11, none⟩ = some (.int .u16 (s.last : Nat)) := hdw3.cell fun C hc => hc.c11
  have d15 : w3.cell? ⟨bd, 16396, none⟩ = some (.int .i64 (o : Nat)) := hdw3.cell fun C hc => hc.co
  have g3 := hdw3.frz 3
  have g9 := hdw3.frz 9
  have g10 := hdw3.frz 10
  have g11 := hdw3.frz 11
  have hhu : IntKind.u16.wrap ((h : Int) + 1) = (h : Int) + 1 := by rw [IntKind.wrap_u16]; omega
  have hhu2 : IntKind.u16.wrap ((h : Int) + 1 + 1) = (h : Int) + 1 + 1 := by rw [IntKind.wrap_u16]; omega
  have hoacc : o = (acc ++ W).length := hout3.o
  have Hdw3 := Lib.hid hdw3; clear hdw3
  have Hinv3 := Lib.hid hinv3; clear hinv3
  have Hout3 := Lib.hid hout3; clear hout3
  have Hk3 := Lib.hid hk3; clear hk3
  have Hk' := Lib.hid hk'; clear hk'
  have Hh := Lib.hid hh; clear hh
  have Hh1 := Lib.hid hh1; clear hh1
  have Hwd := Lib.hid hwd; clear hwd
  have Hov := Lib.hid hov; clear hov
  have Hovp := Lib.hid hovp; clear hovp
  have Hoacc := Lib.hid hoacc; clear hoacc
  have Hwlen := Lib.hid (Hv.out.len HK.out.inv hDl)
  have hh5 : h ≤ 4092 := by have := Hh1.out; omega
  by_cases hgrow : ov ≤ h + 2
  · have hn := hnext.1 (by have := Hh1.out; omega)
    have hn1 := hn.1
    have Hn2 := Lib.hid hn.2; clear hn hnext
    go_upto_region 38 with fail
    go_quiet (fail)
    have hkk : Kp (fun k => k = bd) w3 (((((w3.setCell ⟨bd, 11, none⟩ (.int .u16 (c : Nat))).setCell ⟨bd, 9, none⟩ (.int .u16 ((h : Nat) + 1 : Int))).drewN nq).setCell ⟨bd, 3, none⟩ (.int .u64 ((wd : Nat) + 1 : Int))).setCell ⟨bd, 10, none⟩ (.int .u16 ((ov : Nat) * 2 : Int))) :=
      (((((Kp.refl _ w3).st 11 _).st 9 _).drewN nq).st 3 _).st 10 _
    have hdF : DW bd br { s with bv := bv, nb := nb, suf := suf, pre := pre, out := out, o := o, last := c, hi := h + 1, wd := wd + 1, ov := ov * 2 } (((((w3.setCell ⟨bd, 11, none⟩ (.int .u16 (c : Nat))).setCell ⟨bd, 9, none⟩ (.int .u16 ((h : Nat) + 1 : Int))).drewN nq).setCell ⟨bd, 3, none⟩ (.int .u64 ((wd : Nat) + 1 : Int))).setCell ⟨bd, 10, none⟩ (.int .u16 ((ov : Nat) * 2 : Int))) :=
      ((((Hdw3.out.set fun C hC => hC.setLast c).set fun C hC => hC.setHi (h + 1)).drewN nq).set fun C hC => hC.setWd (wd + 1)).set fun C hC => hC.setOv (ov * 2)
    have hDK := done_dk hdF (Hrp.out.kp (Hk3.out.trans hkk (fun _ _ e => e)) Henv.out.n1) Hstr.out Hinv3.out (by show wd + 1 = _; rw [Hk'.out, Hn2.out]) (by show h + 1 = 258 + (ext D last W).length; rw [Hk'.out, Hh1.out]) rfl (by show ov * 2 = 2 ^ (wd + 1); rw [Hovp.out, Nat.pow_succ]) HK.out.err
    have hkF := Hk2.out.trans (Hk3.out.trans hkk (fun _ _ e => e)) (fun _ _ e => .inl e)
    have HDK := Lib.hid hDK; clear hDK
    have HkF := Lib.hid hkF; clear hkF
    clear hkk hdF
    by_cases ho4 : 4096 ≤ o
    · go_wp2_with fail
      exact ⟨⟨rfl, rfl, rfl⟩, _, acc ++ W, l, by rw [Hrest.out, List.append_assoc], HDK.out.dw, ⟨Hout3.out.o, Hout3.out.out⟩, by have := Hoacc.out; have := Hacc.out; have := Hwlen.out; rw [List.length_append] at *; omega, HkF.out, .inl ⟨by have := Hoacc.out; intro e; rw [e] at this; simp at this; omega, _, _, _, HDK.out⟩⟩
    · go_wp2_with fail
      exact ⟨⟨rfl, rfl, rfl⟩, B.length, by have h1 := lw_ge (258 + D.length); have h2 := Hgk.out; rw [List.length_append, msb_length] at h2; omega, _, _, _, _, l, acc ++ W, rfl, by rw [Hrest.out, List.append_assoc], HDK.out, ⟨Hout3.out.o, Hout3.out.out⟩, by have := Hoacc.out; omega, HkF.out⟩
  · have Hn2 := Lib.hid (hnext.2 (by have := Hh1.out; omega)); clear hnext
    go_upto_region 38 with fail
    go_quiet (fail)
    have hkk : Kp (fun k => k = bd) w3 (((w3.setCell ⟨bd, 11, none⟩ (.int .u16 (c : Nat))).setCell ⟨bd, 9, none⟩ (.int .u16 ((h : Nat) + 1 : Int))).drewN nq) :=
      (((Kp.refl _ w3).st 11 _).st 9 _).drewN nq
    have hdF : DW bd br { s with bv := bv, nb := nb, suf := suf, pre := pre, out := out, o := o, last := c, hi := h + 1 } (((w3.setCell ⟨bd, 11, none⟩ (.int .u16 (c : Nat))).setCell ⟨bd, 9, none⟩ (.int .u16 ((h : Nat) + 1 : Int))).drewN nq) :=
      ((Hdw3.out.set fun C hC => hC.setLast c).set fun C hC => hC.setHi (h + 1)).drewN nq
    have hDK := done_dk hdF (Hrp.out.kp (Hk3.out.trans hkk (fun _ _ e => e)) Henv.out.n1) Hstr.out Hinv3.out (by show s.wd = _; rw [Hk'.out, Hn2.out, Hwd.out]) (by show h + 1 = 258 + (ext D last W).length; rw [Hk'.out, Hh1.out]) rfl HK.out.ov HK.out.err
    have hkF := Hk2.out.trans (Hk3.out.trans hkk (fun _ _ e => e)) (fun _ _ e => .inl e)
    have HDK := Lib.hid hDK; clear hDK
    have HkF := Lib.hid hkF; clear hkF
    clear hkk hdF
    by_cases ho4 : 4096 ≤ o
    · go_wp2_with fail
      exact ⟨⟨rfl, rfl, rfl⟩, _, acc ++ W, l, by rw [Hrest.out, List.append_assoc], HDK.out.dw, ⟨Hout3.out.o, Hout3.out.out⟩, by have := Hoacc.out; have := Hacc.out; have := Hwlen.out; rw [List.length_append] at *; omega, HkF.out, .inl ⟨by have := Hoacc.out; intro e; rw [e] at this; simp at this; omega, _, _, _, HDK.out⟩⟩
    · go_wp2_with fail
      exact ⟨⟨rfl, rfl, rfl⟩, B.length, by have h1 := lw_ge (258 + D.length); have h2 := Hgk.out; rw [List.length_append, msb_length] at h2; omega, _, _, _, _, l, acc ++ W, rfl, by rw [Hrest.out, List.append_assoc], HDK.out, ⟨Hout3.out.o, Hout3.out.out⟩, by have := Hoacc.out; omega, HkF.out⟩
end Go.Proofs.YtgghadfelagghaaDoor

/-
  The switch of decode at a code below 256: the byte is put out, and the table gets the word before with this byte.
  Conditions: what is put out is below 4096 bytes so far.
-/
import Derived.Test.YtgghadfelagghaaDoorRound
import Derived.StillTailTactics
import Derived.Deep.QuietTactic
import Derived.BigQuiet
namespace Go.Proofs.YtgghadfelagghaaDoor
open Go Go.RowKit
theorem DO.push {s : DS} {acc : List Nat} (h : DO s acc) {o c : Nat} (hol : acc.length = o) : ∀ i x, (acc ++ [c])[i]? = some x → upd s.out o c i = x := by
  intro i x hx
  by_cases hi : i < acc.length
  · rw [List.getElem?_append_left hi] at hx
    rw [upd_other _ _ _ _ (by omega)]
    exact h.out i x hx
  · have hi2 : i = acc.length := by
      have := (List.getElem?_eq_some_iff.1 hx).1
      rw [List.length_append, List.length_singleton] at this
      omega
    subst hi2
    rw [List.getElem?_append_right (Nat.le_refl _), Nat.sub_self] at hx
    rw [← hol, upd_self]
    exact Option.some.inj hx
set_option maxRecDepth 100000 in
set_option maxHeartbeats 1600000 in
theorem sw_lit (bd br c : Nat) (hc : c < 256) (s : DS) (D : List (List Nat)) (acc : List Nat) (w2 : World) (hdw : DW bd br s w2) (hinv : DInv s.suf s.pre D none) (hD : D = []) (hlast : s.last = 65535) (ho : DO s acc) (hacc : acc.length < 4096)
    (v1 v3 v4 v5 : Value) (f : Nat → Value) (K : Act → World → Prop) (Q : Exit → Act → World → Prop) (hK : ∀ a w, Mid bd br c s [] [c] (acc ++ [c]) w2 a w → K a w) :
    Code.wp Tryd.prog swcode (Exit.then K Q) (FA (.pointer (some ⟨bd, 0, none⟩)) v1 (.int .u16 (c : Nat)) v3 v4 v5 f) w2 := by
  subst hD
  unfold FA
  conv => arg 2; whnf
  have d7 : w2.cell? ⟨bd, 7, none⟩ = some (.int .u16 256) := hdw.cell fun C hc => hc.c7
  have d11 : w2.cell? ⟨bd, 11, none⟩ = some (.int .u16 65535) := hdw.cell fun C hc => by have := hc.c11; rw [hlast] at this; exact this
  obtain ⟨o, hol⟩ : ∃ o, acc.length = o := ⟨_, rfl⟩
  have hso : s.o = o := ho.o.trans hol
  have d15 : w2.cell? ⟨bd, 16396, none⟩ = some (.int .i64 (o : Nat)) := hdw.cell fun C hc => hso ▸ hc.co
  have dout : w2.cell? ⟨bd, 8204 + o, none⟩ = some (.int .u8 (s.out o : Nat)) := hdw.cell fun C hc => hc.cout o (by omega)
  have g1 := hdw.frz (8204 + o)
  have g2 := hdw.frz 16396
  have ho4 : o < 4096 := by omega
  have hoi : (o : Int) < 8192 := by omega
  have hcw : IntKind.u8.wrap (c : Int) = c := by rw [IntKind.wrap_u8']; omega
  have Hdw := Lib.hid hdw; clear hdw
  have Hinv := Lib.hid hinv; clear hinv
  have Ho := Lib.hid ho; clear ho
  have Hol := Lib.hid hol; clear hol
  clear hso hlast
  go_upto_region 7 with fail
  refine wp_region_still_tail 10 (by kernel_rfl) (by kernel_rfl) ?_
  simp only [List.take_succ_cons, List.take_zero, List.drop_succ_cons, List.drop_zero]
  repeat still_step
  refine wpStill_nil ?_
  change wpList _ _ _ _ _ w2.drew
  go_wp2_with fail
  exact ⟨⟨rfl, rfl, rfl⟩, rfl, ⟨s.suf, s.pre, upd s.out o c, o + 1, ((Hdw.out.set fun C hC => hC.setOut o c (by omega)).set fun C hC => hC.setO (o + 1)).drew, DInv.first hc, ⟨by rw [List.length_append, Hol.out]; rfl, Ho.out.push Hol.out⟩⟩, ((((Kp.refl _ w2).st _ _).st _ _)).drew⟩

set_option maxRecDepth 100000 in
set_option maxHeartbeats 1600000 in
theorem sw_lit2 (bd br c : Nat) (hc : c < 256) (s : DS) (D : List (List Nat)) (lc : Nat) (lw0 : List Nat) (acc : List Nat) (w2 : World) (hdw : DW bd br s w2) (hinv : DInv s.suf s.pre D (some (lc, lw0))) (hlast : s.last = lc) (hhi : s.hi = 258 + D.length) (hfew : D.length + 258 ≤ 4092)
    (ho : DO s acc) (hacc : acc.length < 4096) (v1 v3 v4 v5 : Value) (f : Nat → Value) (K : Act → World → Prop) (Q : Exit → Act → World → Prop) (hK : ∀ a w, Mid bd br c s (D ++ [lw0 ++ [c]]) [c] (acc ++ [c]) w2 a w → K a w) :
    Code.wp Tryd.prog swcode (Exit.then K Q) (FA (.pointer (some ⟨bd, 0, none⟩)) v1 (.int .u16 (c : Nat)) v3 v4 v5 f) w2 := by
  unfold FA
  conv => arg 2; whnf
  have hlc : lc < 4093 := by have := (hinv.seen lc lw0 rfl).code; omega
  obtain ⟨hi, hhi2⟩ : ∃ hi, s.hi = hi := ⟨_, rfl⟩
  have hhi4 : hi ≤ 4092 := by omega
  have hhD : hi = 258 + D.length := by omega
  have d7 : w2.cell? ⟨bd, 7, none⟩ = some (.int .u16 256) := hdw.cell fun C hc => hc.c7
  obtain ⟨o, hol⟩ : ∃ o, acc.length = o := ⟨_, rfl⟩
  have hso : s.o = o := ho.o.trans hol
  have d15 : w2.cell? ⟨bd, 16396, none⟩ = some (.int .i64 (o : Nat)) := hdw.cell fun C hc => hso ▸ hc.co
  have dout : w2.cell? ⟨bd, 8204 + o, none⟩ = some (.int .u8 (s.out o : Nat)) := hdw.cell fun C hc => hc.cout o (by omega)
  have g1 := hdw.frz (8204 + o)
  have g2 := hdw.frz 16396
  have ho4 : o < 4096 := by omega
  have hoi : (o : Int) < 8192 := by omega
  have hcw : IntKind.u8.wrap (c : Int) = c := by rw [IntKind.wrap_u8']; omega
  have Hdw := Lib.hid hdw; clear hdw
  have Hinv := Lib.hid hinv; clear hinv
  have Ho := Lib.hid ho; clear ho
  have Hol := Lib.hid hol; clear hol
  have Hhi2 := Lib.hid hhi2; clear hhi2
  have HhD := Lib.hid hhD; clear hhD
  have Hlast := Lib.hid hlast; clear hlast
  clear hso hhi hacc
  go_upto_region 7 with fail
  refine wp_region_still_tail 10 (by kernel_rfl) (by kernel_rfl) ?_
  simp only [List.take_succ_cons, List.take_zero, List.drop_succ_cons, List.drop_zero]
  repeat still_step
  refine wpStill_nil ?_
  change wpList _ _ _ _ _ w2.drew
  go_upto_region 9 with fail
  obtain ⟨W, hW⟩ : ∃ W, ((w2.setCell ⟨bd, 8204 + o, none⟩ (.int .u8 (c : Nat))).setCell ⟨bd, 16396, none⟩ (.int .i64 ((o : Nat) + 1 : Int))).drew = W := ⟨_, rfl⟩
  have hdW : DW bd br { s with out := upd s.out o c, o := o + 1 } W := hW ▸ ((Hdw.out.set fun C hC => hC.setOut o c (by omega)).set fun C hC => hC.setO (o + 1)).drew
  have hkW : Kp (fun k => k = bd) w2 W := hW ▸ ((((Kp.refl _ w2).st _ _).st _ _)).drew
  rw [hW]
  clear hW d7 d15 dout g1 g2 hoi
  have d9 : W.cell? ⟨bd, 9, none⟩ = some (.int .u16 (hi : Nat)) := hdW.cell fun C hc => Hhi2.out ▸ hc.c9
  have d11 : W.cell? ⟨bd, 11, none⟩ = some (.int .u16 (lc : Nat)) := hdW.cell fun C hc => Hlast.out ▸ hc.c11
  have dsuf : W.cell? ⟨bd, 12 + hi, none⟩ = some (.int .u8 (s.suf hi : Nat)) := hdW.cell fun C hc => hc.csuf hi (by omega)
  have dpre : W.cell? ⟨bd, 4108 + hi, none⟩ = some (.int .u16 (s.pre hi : Nat)) := hdW.cell fun C hc => hc.cpre hi (by omega)
  have g1 := hdW.frz (12 + hi)
  have g2 := hdW.frz (4108 + hi)
  have hhii : (hi : Int) < 4096 := by omega
  have HdW := Lib.hid hdW; clear hdW
  have HkW := Lib.hid hkW; clear hkW
  go_upto_region 10 with fail
  refine wp_region_still_tail 10 (by kernel_rfl) (by kernel_rfl) ?_
  simp only [List.take_succ_cons, List.take_zero, List.drop_succ_cons, List.drop_zero]
  repeat still_step
  refine wpStill_nil ?_
  change wpList _ _ _ _ _ W.drew
  go_upto_region 11 with fail
  obtain ⟨W3, hW3⟩ : ∃ W3, (W.setCell ⟨bd, 12 + hi, none⟩ (.int .u8 (c : Nat))).drew = W3 := ⟨_, rfl⟩
  have hdW3 : DW bd br { s with suf := upd s.suf hi c, out := upd s.out o c, o := o + 1 } W3 := hW3 ▸ (HdW.out.set fun C hC => hC.setSuf hi c (by omega)).drew
  have hkW3 : Kp (fun k => k = bd) w2 W3 := hW3 ▸ (HkW.out.st _ _).drew
  rw [hW3]
  clear hW3 d9 d11 dsuf dpre g1 g2
  have d9 : W3.cell? ⟨bd, 9, none⟩ = some (.int .u16 (hi : Nat)) := hdW3.cell fun C hc => Hhi2.out ▸ hc.c9
  have d11 : W3.cell? ⟨bd, 11, none⟩ = some (.int .u16 (lc : Nat)) := hdW3.cell fun C hc => Hlast.out ▸ hc.c11
  have dpre : W3.cell? ⟨bd, 4108 + hi, none⟩ = some (.int .u16 (s.pre hi : Nat)) := hdW3.cell fun C hc => hc.cpre hi (by omega)
  have g2 := hdW3.frz (4108 + hi)
  have HdW3 := Lib.hid hdW3; clear hdW3
  have HkW3 := Lib.hid hkW3; clear hkW3
  refine wp_region_still_tail 12 (by kernel_rfl) (by kernel_rfl) ?_
  simp only [List.take_succ_cons, List.take_zero, List.drop_succ_cons, List.drop_zero]
  repeat still_step
  refine wpStill_nil ?_
  change wpList _ _ _ _ _ W3.drew
  go_wp2_with fail
  have hinv2 := Hinv.out.next (.lit c hc)
  rw [← HhD.out] at hinv2
  exact ⟨⟨rfl, rfl, rfl⟩, rfl, ⟨upd s.suf hi c, upd s.pre hi lc, upd s.out o c, o + 1, (HdW3.out.set fun C hC => hC.setPre hi lc (by omega)).drew, hinv2, ⟨by rw [List.length_append, Hol.out]; rfl, Ho.out.push Hol.out⟩⟩, (HkW3.out.st _ _).drew⟩
end Go.Proofs.YtgghadfelagghaaDoor

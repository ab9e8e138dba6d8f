/-
  The switch of decode at a code of the table, and at the code that is about to be known.
  Conditions: what is put out is below 4096 bytes so far; at most 4092 codes are known.
-/
import Derived.Test.YtgghadfelagghaaDoorFin
import Derived.Deep.CutBlock
namespace Go.Proofs.YtgghadfelagghaaDoor
open Go Go.RowKit
set_option maxRecDepth 100000 in
set_option maxHeartbeats 1600000 in
theorem sw_tab (bd br k : Nat) (s : DS) (D : List (List Nat)) (lc : Nat) (lw0 W acc : List Nat) (w2 : World) (hdw : DW bd br s w2) (hinv : DInv s.suf s.pre D (some (lc, lw0))) (hk : D[k]? = some W) (hlast : s.last = lc) (hhi : s.hi = 258 + D.length) (hfew : D.length + 258 ≤ 4092)
    (ho : DO s acc) (hacc : acc.length < 4096) (v1 v3 v4 v5 : Value) (f : Nat → Value) (K : Act → World → Prop) (Q : Exit → Act → World → Prop) (hK : ∀ a w, Mid bd br (258 + k) s (D ++ [lw0 ++ [W.headD 0]]) W (acc ++ W) w2 a w → K a w) :
    Code.wp Tryd.prog swcode (Exit.then K Q) (FA (.pointer (some ⟨bd, 0, none⟩)) v1 (.int .u16 ((258 + k : Nat) : Int)) v3 v4 v5 f) w2 := by
  unfold FA
  conv => arg 2; whnf
  have hkD : k < D.length := (List.getElem?_eq_some_iff.1 hk).1
  have htab := hinv.words k W hk
  have hWl := htab.len_le (by omega)
  obtain ⟨code, hcode⟩ : ∃ code, 258 + k = code := ⟨_, rfl⟩
  obtain ⟨hi, hhi2⟩ : ∃ hi, s.hi = hi := ⟨_, rfl⟩
  have hch : code < hi := by omega
  have hc258 : 258 ≤ code := by omega
  have hhi4 : hi ≤ 4092 := by omega
  have d7 : w2.cell? ⟨bd, 7, none⟩ = some (.int .u16 256) := hdw.cell fun C hc => hc.c7
  have d8 : w2.cell? ⟨bd, 8, none⟩ = some (.int .u16 257) := hdw.cell fun C hc => hc.c8
  have d9 : w2.cell? ⟨bd, 9, none⟩ = some (.int .u16 (hi : Nat)) := hdw.cell fun C hc => hhi2 ▸ hc.c9
  have Hfin : Hid (∀ a w, ChainEnd bd br (.int .u16 (code : Nat)) s W w2 a w → ∀ (Q' : Exit → Act → World → Prop), (∀ a w, Mid bd br code s (D ++ [lw0 ++ [W.headD 0]]) W (acc ++ W) w2 a w → Q' .normal a w) → Code.wp Tryd.prog rest5 Q' a w) := fun a w hce Q' hQ' =>
    fin_any bd br code s D lc lw0 W acc w2 hinv (hcode ▸ .dict k W hk) hlast hhi hfew ho hacc (by omega) a w hce Q' hQ'
  rw [hcode] at hK htab ⊢
  have Hdw := Lib.hid hdw; clear hdw
  have Htab := Lib.hid htab; clear htab
  have HK := Lib.hid hK
  clear hinv hk hlast hhi ho hacc hcode hhi2
  go_upto_block 5 with fail
  refine chain_any bd br (.int .u16 (code : Nat)) s (258 + D.length) (by omega) W (by omega) w2 _ code w2 ⟨⟨code, 8191, W, [], s.out, rfl, ⟨rfl, rfl, rfl, rfl, rfl⟩, Hdw.out, Htab.out, List.append_nil _, rfl, fun j x hx => by simp at hx, fun j hj => rfl⟩, rfl, Kp.refl _ _⟩ _ _ ?_
  intro a' w' hce
  go_step
  exact Hfin.out a' w' hce _ HK.out

set_option maxRecDepth 100000 in
set_option maxHeartbeats 1600000 in
theorem sw_same (bd br : Nat) (s : DS) (D : List (List Nat)) (lc : Nat) (lw0 acc : List Nat) (w2 : World) (hdw : DW bd br s w2) (hinv : DInv s.suf s.pre D (some (lc, lw0))) (hlast : s.last = lc) (hhi : s.hi = 258 + D.length) (hfew : D.length + 258 ≤ 4092)
    (ho : DO s acc) (hacc : acc.length < 4096) (v1 v3 v4 v5 : Value) (f : Nat → Value) (K : Act → World → Prop) (Q : Exit → Act → World → Prop)
    (hK : ∀ a w, Mid bd br (258 + D.length) s (D ++ [lw0 ++ [(lw0 ++ [lw0.headD 0]).headD 0]]) (lw0 ++ [lw0.headD 0]) (acc ++ (lw0 ++ [lw0.headD 0])) w2 a w → K a w) :
    Code.wp Tryd.prog swcode (Exit.then K Q) (FA (.pointer (some ⟨bd, 0, none⟩)) v1 (.int .u16 ((258 + D.length : Nat) : Int)) v3 v4 v5 f) w2 := by
  unfold FA
  conv => arg 2; whnf
  have htab := hinv.seen lc lw0 rfl
  have hWl := htab.len_le (by omega)
  have hlc : lc < 4093 := by have := htab.code; omega
  have hhl := htab.head_lt
  obtain ⟨code, hcode⟩ : ∃ code, 258 + D.length = code := ⟨_, rfl⟩
  obtain ⟨h, hh⟩ : ∃ h, lw0.headD 0 = h := ⟨_, rfl⟩
  have hc258 : 258 ≤ code := by omega
  have hhi4 : code ≤ 4092 := by omega
  have hWl2 : (lw0 ++ [h]).length ≤ 3838 := by rw [List.length_append]; simp; omega
  have d7 : w2.cell? ⟨bd, 7, none⟩ = some (.int .u16 256) := hdw.cell fun C hc => hc.c7
  have d8 : w2.cell? ⟨bd, 8, none⟩ = some (.int .u16 257) := hdw.cell fun C hc => hc.c8
  have d9 : w2.cell? ⟨bd, 9, none⟩ = some (.int .u16 (code : Nat)) := hdw.cell fun C hc => (hhi.trans hcode) ▸ hc.c9
  have d11 : w2.cell? ⟨bd, 11, none⟩ = some (.int .u16 (lc : Nat)) := hdw.cell fun C hc => hlast ▸ hc.c11
  have Hfin : Hid (∀ a w, ChainEnd bd br (.int .u16 (code : Nat)) s (lw0 ++ [h]) w2 a w → ∀ (Q' : Exit → Act → World → Prop), (∀ a w, Mid bd br code s (D ++ [lw0 ++ [(lw0 ++ [h]).headD 0]]) (lw0 ++ [h]) (acc ++ (lw0 ++ [h])) w2 a w → Q' .normal a w) → Code.wp Tryd.prog rest5 Q' a w) := fun a w hce Q' hQ' =>
    fin_any bd br code s D lc lw0 (lw0 ++ [h]) acc w2 hinv (hcode ▸ hh ▸ .same lc lw0 rfl) hlast hhi hfew ho hacc hWl2 a w hce Q' hQ'
  rw [hcode, hh] at hK
  rw [hcode]
  have Hdw := Lib.hid hdw; clear hdw
  have Htab := Lib.hid htab; clear htab
  have HK := Lib.hid hK; clear hK
  have Hh := Lib.hid hh; clear hh
  clear hinv hlast hhi ho hacc hcode
  go_upto_block 3 with fail
  refine head_any bd br (.int .u16 (code : Nat)) (.int .i64 8191) s (258 + D.length) h (by omega) w2 Hdw.out _ lc w2 ⟨⟨lc, lw0, rfl, ⟨rfl, rfl, rfl, rfl, rfl⟩, Htab.out, Hh.out⟩, rfl, rfl⟩ _ _ ?_
  rintro a' w' ⟨hfr, hs2, rfl, hh256⟩
  go_step
  obtain ⟨y1, y2, y3, f2, rfl⟩ := hfr.open
  have e2 : y2 = .int .u16 (code : Nat) := Option.some.inj hs2
  subst e2
  unfold FA
  clear hfr hs2
  have dout : w2.cell? ⟨bd, 16395, none⟩ = some (.int .u8 (s.out 8191 : Nat)) := Hdw.out.cell fun C hC => hC.cout 8191 (by omega)
  have g1 := Hdw.out.frz 16395
  have hcw : IntKind.u8.wrap (h : Int) = h := by rw [IntKind.wrap_u8']; omega
  go_upto_block 5 with fail
  refine chain_any bd br (.int .u16 (code : Nat)) s (258 + D.length) (by omega) (lw0 ++ [h]) hWl2 w2 _ lc _ ⟨⟨lc, 8190, lw0, [h], upd s.out 8191 h, rfl, ⟨rfl, rfl, rfl, rfl, rfl⟩, Hdw.out.set fun C hC => hC.setOut 8191 h (by omega), Htab.out, rfl, rfl, ?_, ?_⟩, rfl, (Kp.refl _ w2).st _ _⟩ _ _ ?_
  · intro j x hx
    cases j with
    | zero => rw [← Option.some.inj hx]; exact upd_self _ _ _
    | succ j => simp at hx
  · intro j hj
    exact upd_other _ _ _ _ (by omega)
  intro a' w' hce
  go_step
  exact Hfin.out a' w' hce _ HK.out
end Go.Proofs.YtgghadfelagghaaDoor

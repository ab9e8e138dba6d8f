/-
  'decode': what a call of it leaves.
  Conditions: those of Env; the decoder stands at the head of a code; nothing is pending.
-/
import Derived.Test.YtgghadfelagghaaDoorRoundCode
import Derived.WalkMore
namespace Go.Proofs.YtgghadfelagghaaDoor
open Go Go.RowKit
/-- what a call of 'decode' leaves -/
def DPost (bd br : Nat) (sv : Value) (src : List Nat) (ea : Addr) (rest : List Nat) (w w' : World) : Prop :=
  ∃ s acc rest', rest = acc ++ rest' ∧ DW bd br s w' ∧ s.o = 0 ∧ s.rd = .slice (some ⟨bd, 8204, none⟩) acc.length 8192 ∧ acc.length ≤ 8192 ∧ (∀ i x, acc[i]? = some x → s.out i = x) ∧ Kp (fun k => k = bd ∨ k = br) w w' ∧
    ((acc ≠ [] ∧ ∃ D last B, DK bd br sv src s D last B rest' w') ∨ (s.err = .iface 68 (.pointer (some ea)) ∧ rest' = []))
theorem DK.tail {bd br : Nat} {sv : Value} {src : List Nat} {s s' : DS} {D : List (List Nat)} {last : Option (Nat × List Nat)} {B : List Bool} {rest : List Nat} {w w' : World} (h : DK bd br sv src s D last B rest w) (hd : DW bd br s' w') (hk : Kp (fun k => k = bd) w w') (hn : br ≠ bd)
    (e : s' = { s with o := s'.o, rd := s'.rd }) : DK bd br sv src s' D last B rest w' := by
  obtain ⟨o, ho⟩ : ∃ o, s'.o = o := ⟨_, rfl⟩
  obtain ⟨rd, hrd⟩ : ∃ rd, s'.rd = rd := ⟨_, rfl⟩
  rw [ho, hrd] at e
  subst e
  exact ⟨hd, h.rp.kp hk hn, h.str, h.inv, h.wd, h.hi, h.lst, h.ov, h.err⟩
set_option maxRecDepth 100000 in
set_option maxHeartbeats 1600000 in
theorem decode_any (bd br b off cap : Nat) (src : List Nat) (ea : Addr) (s : DS) (D : List (List Nat)) (last : Option (Nat × List Nat)) (B : List Bool) (rest : List Nat) (w : World) (henv : Env bd br b off cap src ea w)
    (h : DK bd br (.slice (some ⟨b, off, none⟩) src.length cap) src s D last B rest w) (ho : s.o = 0) :
    Calls Tryd.prog 38 #[.pointer (some ⟨bd, 0, none⟩)] w fun e w' => e = .returned (.tuple #[]) ∧ DPost bd br (.slice (some ⟨b, off, none⟩) src.length cap) src ea rest w w' := by
  have HD := Lib.hid h; clear h
  have Henv := Lib.hid henv; clear henv
  have Ho := Lib.hid ho; clear ho
  go_enter Tryd.func38, Tryd.ntmps38
  go_step3
  go_upto_block 0 with fail
  go_step3
  go_upto_block 0 with fail
  refine wp_cut (fun a w' => RoundExit bd br (.slice (some ⟨b, off, none⟩) src.length cap) src ea rest w a w') ?rest ?first
  case first =>
    intro J K' hJ hM
    refine wp_block ?_
    refine wp_loop_ghost_k (fun n a wr => Fr0 (.pointer (some ⟨bd, 0, none⟩)) a ∧ DLoop bd br (.slice (some ⟨b, off, none⟩) src.length cap) src rest w n wr) B.length ⟨⟨rfl, rfl, rfl⟩, s, D, last, B, rest, [], rfl, rfl, HD.out, ⟨Ho.out, fun i x hx => by simp at hx⟩, by decide, Kp.refl _ _⟩ ?_
    intro gk a wr hI J2 K2 hJ2 hK2
    obtain ⟨hfr, s1, D1, last1, B1, rest1, acc, hgk, hrest, hk, hout, hacc, hkp⟩ := hI
    obtain ⟨v1, v2, v3, v4, v5, f, rfl⟩ := hfr.open
    have hQ : ∀ a w', RoundExit bd br (.slice (some ⟨b, off, none⟩) src.length cap) src ea rest w a w' → K' a w' := fun a w' hx => hM _ _ (Met.intro (hJ _ _ hx))
    have hK : ∀ a w', RoundEnd bd br (.slice (some ⟨b, off, none⟩) src.length cap) src rest w gk a w' → K2 a w' := fun a w' hx => by
      obtain ⟨hf, k, hlt, hd⟩ := hx
      exact hK2 _ _ (Handed.intro k hlt (hJ2 _ _ _ ⟨hf, hd⟩))
    cases hk.str with
    | eof _ _ pad => exact round_eof bd br b off cap src ea rest w wr Henv.out s1 D1 last1 pad acc hk hrest hout hacc hkp v1 v2 v3 v4 v5 f K2 _ hQ
    | clr _ _ B2 l h2 => exact round_clr bd br b off cap src ea rest w wr Henv.out s1 D1 last1 B2 rest1 acc hk h2 hrest hout hacc hkp v1 v2 v3 v4 v5 f gk hgk K2 _ hK
    | code _ _ c W B2 l hv hs h2 => exact round_code bd br b off cap src ea rest w wr Henv.out s1 D1 last1 c W B2 l acc hk hv hs h2 hrest hout hacc hkp v1 v2 v3 v4 v5 f gk hgk K2 _ hK hQ
  case rest =>
    intro a w3 hx
    obtain ⟨hfr, s3, acc, rest3, hrest, hdw, hout, hal, hkp, hend⟩ := hx
    obtain ⟨v1, v2, v3, v4, v5, f, rfl⟩ := hfr.open
    go_step
    unfold FA
    obtain ⟨n, hn⟩ : ∃ n, acc.length = n := ⟨_, rfl⟩
    have hso : s3.o = n := hout.o.trans hn
    have hn8 : n ≤ 8192 := by omega
    have hni : (n : Int) ≤ 8192 := by omega
    have d15 : w3.cell? ⟨bd, 16396, none⟩ = some (.int .i64 (n : Nat)) := hdw.cell fun C hC => hso ▸ hC.co
    have d16 : w3.cell? ⟨bd, 16397, none⟩ = some s3.rd := hdw.cell fun C hC => hC.crd
    have g15 := hdw.frz 16396
    have g16 := hdw.frz 16397
    have Hdw := Lib.hid hdw; clear hdw
    have Hout := Lib.hid hout; clear hout
    have Hkp := Lib.hid hkp; clear hkp
    have Hend := Lib.hid hend; clear hend
    have Hrest := Lib.hid hrest; clear hrest
    have Hn := Lib.hid hn; clear hn
    clear hso hal hfr
    go_upto_region 44 with fail
    refine wp_region_still_tail 11 (by kernel_rfl) (by kernel_rfl) ?_
    simp only [List.take_succ_cons, List.take_zero, List.drop_succ_cons, List.drop_zero]
    repeat still_step
    refine wpStill_nil ?_
    change wpList _ _ _ _ _ w3.drew
    go_wp2_with fail
    rw [Exit.noGoto_normal]
    have hkk : Kp (fun k => k = bd) w3 ((w3.setCell ⟨bd, 16397, none⟩ (.slice (some ⟨bd, 8204, none⟩) n 8192)).setCell ⟨bd, 16396, none⟩ (.int .i64 0)).drew := (((Kp.refl _ w3).st 16397 _).st 16396 _).drew
    have hdF : DW bd br { s3 with o := 0, rd := .slice (some ⟨bd, 8204, none⟩) n 8192 } ((w3.setCell ⟨bd, 16397, none⟩ (.slice (some ⟨bd, 8204, none⟩) n 8192)).setCell ⟨bd, 16396, none⟩ (.int .i64 0)).drew :=
      ((Hdw.out.set fun C hC => hC.setRd (.slice (some ⟨bd, 8204, none⟩) n 8192)).set fun C hC => hC.setO 0).drew
    refine bodyPost_end (results_none rfl _ _ _) rfl ⟨rfl, { s3 with o := 0, rd := .slice (some ⟨bd, 8204, none⟩) n 8192 }, acc, rest3, Hrest.out, hdF, rfl, by rw [Hn.out], by rw [Hn.out]; exact hn8, Hout.out.out, Hkp.out.trans hkk (fun _ _ e => .inl e), ?_⟩
    rcases Hend.out with ⟨hne, D3, last3, B3, hDK⟩ | ⟨he, hr⟩
    · exact .inl ⟨hne, D3, last3, B3, hDK.tail hdF hkk Henv.out.n1 rfl⟩
    · exact .inr ⟨he, hr⟩
end Go.Proofs.YtgghadfelagghaaDoor

/-
  'Coded': the bytes that it gives are those of codes that tell the data.
  Conditions: at most 5000 bytes, each below 256; 'every' is below 400.
-/
import Derived.Test.YtgghadfelagghaaDoorEncMore
import Derived.Deep.QuietTactic
import Derived.BigQuiet
import Derived.Deep.RegionLaw
import Derived.Deep.CutBlock
import Derived.Deep.DeepCutAuto
namespace Go.Proofs.YtgghadfelagghaaDoor
open Go Go.RowKit
theorem CR.of {H : Nat} {w0 : World} {data d : List Nat} {bs : List Bool} {D : List (List Nat)} {last : Option (Nat × List Nat)} {count : Nat} {v lv : Value} {vals : List Value} {wr : World}
    (he : Enc H bs (258 + D.length) count (listOf D last d) v lv vals wr) (hb : Below H w0 wr) (h : CP data d bs D last count) : CR H w0 data d bs D last count v lv vals wr := ⟨he, hb, h.cont, h.cnt, h.d0, h.ne, h.few, h.wb⟩
theorem addr_add (b off j : Nat) : ((⟨b, off, none⟩ : Addr).add j) = ⟨b, off + j, none⟩ := by
  unfold Addr.add
  split
  · rename_i h; subst h; rfl
  · rfl
theorem Enc.word_lt {H : Nat} {bs : List Bool} {known count : Nat} {L : List (List Nat)} {v lv : Value} {vals : List Value} {w : World} (h : Enc H bs known count L v lv vals w) {k : Nat} {x : Value} {g : Nat}
    (hx : vals[k]? = some x) (hg : x.ownBlock = some g) : g < w.heap.size := by
  have hl : k < L.length := by
    have h1 := (List.getElem?_eq_some_iff.1 hx).1
    have h2 := h.lo.1
    omega
  exact ((h.words k x _ hx (List.getElem?_eq_getElem hl)).1.lt g hg).2
/-- the byte that follows is put behind the word -/
theorem Enc.tail {H : Nat} {bs : List Bool} {known count : Nat} {L : List (List Nat)} {v lv : Value} {vals : List Value} {W w4 : World} (h : Enc H bs known count L v lv vals W) {o : Obj} {v3 : Value} {n : Nat} {xs : List Value}
    (hown : W.ownsRow (H + 6) 5 1 v3 n xs) (hk : Kp (fun k => v3.ownBlock = some k) (W.alloc o).drew w4) (hv : ∀ g, v3.ownBlock = some g → v.ownBlock ≠ some g)
    (hx : ∀ (k : Nat) (x : Value) (g : Nat), vals[k]? = some x → x.ownBlock = some g → v3.ownBlock ≠ some g) : Enc H bs known count L v lv vals w4 :=
  (h.alloc o).drew.keep hk (fun k e => (hown.lt k e).1) (fun g hg e => hv g e hg) (fun g hg e => own_kind hown h.lo (by decide) e hg) hx
theorem Enc.leaf {H : Nat} {bs : List Bool} {known count : Nat} {L : List (List Nat)} {v lv : Value} {vals : List Value} {w W7 w4 w5 : World} {o o2 : Obj} {v3 v4 v5 : Value} {n ln y : Nat} {wd : List Nat}
    (h8 : Enc H bs known count L v lv vals W7) (hb8 : Below H w W7) (hv3 : ∀ g, v3.ownBlock = some g → v.ownBlock ≠ some g) (hown7 : W7.ownsRow (H + 6) 5 1 v3 n (u8v wd)) (h9 : Enc H bs known count L v lv vals w4)
    (hk4 : Kp (fun k => v3.ownBlock = some k) (W7.alloc o).drew w4) (hown4 : w4.ownsRow (H + 6) 5 1 v4 (n + 1) (u8v wd ++ [.int .u8 (y : Nat)]))
    (hob4 : ∀ g, v4.ownBlock = some g → v3.ownBlock = some g ∨ (W7.alloc o).drew.heap.size ≤ g)
    (hown5 : w5.ownsRow (H + 3) 22 1 v5 (ln + 1) (vals ++ [v4])) (hk5 : Kp (fun k => lv.ownBlock = some k) (w4.alloc o2) w5) (hob5 : ∀ g, v5.ownBlock = some g → lv.ownBlock = some g ∨ (w4.alloc o2).heap.size ≤ g)
    (hwl : wd.length = n) (hln : L.length = ln) :
    Enc H bs known count (L ++ [wd ++ [y]]) v v5 (vals ++ [v4]) (w5.setCell ⟨H + 4, 0, none⟩ v5) ∧ Below H w (w5.setCell ⟨H + 4, 0, none⟩ v5) := by
  have hs : H + 6 ≤ W7.heap.size := h8.px.hb
  have hs4 : H + 6 ≤ w4.heap.size := h9.px.hb
  constructor
  · refine (h9.alloc o2).grow (x := v4) (word := wd ++ [y]) ?_ ?_ (by rw [hln]; exact hown5) hk5 hob5
    · have e1 : (wd ++ [y]).length = n + 1 := by simp [hwl]
      have e2 : u8v (wd ++ [y]) = u8v wd ++ [.int .u8 (y : Nat)] := by simp [u8v]
      rw [e1, e2]
      exact hown4.alloc o2
    · intro g hg e
      rcases hob4 g hg with h1 | h1
      · exact hv3 g h1 e
      · have h2 := (h8.px.own.lt g e).2
        have h3 : (W7.alloc o).drew.heap.size = W7.heap.size + 1 := by show (W7.alloc o).heap.size = _; simp
        omega
  · refine Below.setCell (p := ⟨H + 4, 0, none⟩) ?_ (show H ≤ H + 4 by omega) _
    have b1 : Below H w (W7.alloc o).drew := (hb8.alloc (by omega) o).drew
    have b2 : Below H (W7.alloc o).drew w4 := hk4.below (fun k hk e => by have := (hown7.lt k e).1; omega) (by show H ≤ (W7.alloc o).heap.size; simp; omega)
    have b3 : Below H (w4.alloc o2) w5 := hk5.below (fun k hk e => by have := h9.lb k e; omega) (by simp; omega)
    exact ((b1.trans b2).alloc (by omega) o2).trans b3
theorem info22 : (Tryd.prog.info? 22).map (fun i => (i.zero, i.size, i.bytes)) = some (some (.slice none 0 0), 1, 24) := by kernel_rfl
set_option maxRecDepth 100000 in
set_option maxHeartbeats 800000 in
theorem coded_any (ev : Int) (hev : 0 ≤ ev) (hev2 : ev < 400) (data : List Nat) (hd : data.length ≤ 5000) (hb : ∀ b ∈ data, b < 256) (dv : Value) (w : World) (hs : SrcAt w.heap.size w dv data) :
    Calls Tryd.prog 5 #[dv, .int .i64 ev] w fun e w' => CodedPost data w e w' := by
  have HS := Lib.hid hs; clear hs
  have HB := Lib.hid hb; clear hb
  go_enter Tryd.func5, Tryd.ntmps5
  go_wp2_with fail
  refine (clear_any w.heap.size [] 258 0 [] (.slice none 0 0) (.slice (some ⟨w.heap.size + 3, 0, none⟩) 0 0) [] _ ?enc (by omega) (by simp)).mono ?_
  case enc => exact Enc.start w
  rintro e w1 ⟨rfl, hc1⟩
  obtain ⟨v1, lv1, h1, hb1⟩ := hc1
  have HE := Lib.hid h1; clear h1
  have HB1 := Lib.hid hb1; clear hb1
  go_upto_region 8 with fail
  simp only [Nat.add_assoc, Nat.reduceAdd]
  obtain ⟨H, hH⟩ : ∃ H, w.heap.size = H := ⟨_, rfl⟩
  rw [hH] at HE HB1 HS ⊢
  have HB0 : Hid (Below H w ((((((w.alloc (Obj.cells #[Value.slice none 0 0, Value.int IntKind.i64 0] 42)).alloc (Obj.cells #[Value.pointer (some { block := H, off := 0 })] 40)).alloc (Obj.cells #[Value.int IntKind.i64 258] 3)).alloc (Obj.cells #[] 22)).alloc (Obj.cells #[Value.slice (some { block := H + 1 + 1 + 1, off := 0 }) 0 0] 43)).alloc (Obj.cells #[Value.int IntKind.i64 0] 3))) := by
    refine ((((((Below.refl H w).alloc ?_ _).alloc ?_ _).alloc ?_ _).alloc ?_ _).alloc ?_ _).alloc ?_ _ <;> (try simp) <;> omega
  have HH := Lib.hid hH; clear hH
  go_loopg [0] data.length (fun gk s0 wr => ∃ d, gk = d.length ∧ SrcAt H w s0 d ∧ CRel H w data d wr)
  case atStart => exact ⟨data, rfl, HS.out, _, _, _, _, _, _, _, CR.of (D := []) (last := .none) ((List.nil_append (msb 256 (lw 258)) ▸ HE.out).alloc _) ((HB0.out.trans HB1.out).alloc (by have := HE.out.px.hb; omega) _) (CP.start data)⟩
  case round =>
    obtain ⟨d, hgk, hsrc, hcr⟩ := hrel
    obtain ⟨bs, D, last, count, v, lv, vals, hcr⟩ := hcr
    by_cases hd0 : d = []
    · subst hd0
      obtain ⟨p, cap, rfl, _, _⟩ := hsrc
      simp only [List.length_nil]
      obtain ⟨known, hkn⟩ : ∃ known, 258 + D.length = known := ⟨_, rfl⟩
      have hE : Enc H bs known count (listOf D last []) v lv vals wr := hkn ▸ hcr.enc
      have hk4 : known ≤ 4092 := by have := hcr.few; omega
      have HC := Lib.hid hcr; clear hcr hgk
      have Hkn := Lib.hid hkn; clear hkn
      have c1 : wr.cell? ⟨H + 1, 0, none⟩ = some (.pointer (some ⟨H, 0, none⟩)) := by rw [cell_blk hE.wv]; rfl
      have c2 : wr.cell? ⟨H + 2, 0, none⟩ = some (.int .i64 (known : Nat)) := by rw [cell_blk hE.kn]; rfl
      have HE3 := Lib.hid hE; clear hE
      go_upto_region 26 with fail
      refine wp_region_still_tail 3 (by kernel_rfl) (by kernel_rfl) ?_
      simp only [List.take_succ_cons, List.take_zero, List.drop_succ_cons, List.drop_zero]
      still_step
      still_step
      still_call ((width_any known _ (by omega)).mono fun e w' ⟨he, hw⟩ => ⟨he, hw.symm⟩)
      refine wpStill_nil ?_
      change wpList _ _ _ _ _ wr.drew
      go_wp2_with fail
      refine (word_any 257 (lw known) _ (H + 6) H v bs HE3.out.px.drew (lw_le known) ?hbits).mono ?_
      case hbits => (obtain ⟨x, hx, _, hbl, _⟩ := HC.out.cont; have := congrArg List.length hx; rw [List.length_append] at this; omega)
      rintro e w2 ⟨rfl, hw2⟩
      obtain ⟨v2, hE2, hB2⟩ := HE3.out.put hw2.of_drew
      have d1 : w2.cell? ⟨H + 1, 0, none⟩ = some (.pointer (some ⟨H, 0, none⟩)) := by rw [cell_blk hE2.wv]; rfl
      have d2 : w2.cell? ⟨H, 0, none⟩ = some v2 := by rw [cell_blk hE2.px.blk]; rfl
      obtain ⟨po, co, hvo⟩ := owns_form hE2.px.own
      obtain ⟨m9, hm9⟩ : ∃ m9, ((bs ++ msb 257 (lw known)).length + 7) / 8 = m9 := ⟨_, rfl⟩
      rw [hm9] at hvo
      have Hm9 := Lib.hid hm9; clear hm9
      have HE2 := Lib.hid hE2; clear hE2
      have HB2 := Lib.hid hB2; clear hB2
      clear c1 c2 hw2
      subst hvo
      go_wp2_with fail
      go_ret
      have heof := HC.out.plain.eof hd
      rw [Hkn.out] at heof
      exact ⟨_, bs ++ msb 257 (lw known), rfl, HH.out ▸ HC.out.blw.trans HB2.out, by rw [HH.out, Hm9.out]; exact Hm9.out ▸ HE2.out.px.own, heof.1, heof.2⟩
    · obtain ⟨p, cap, rfl, hcap, hsrc⟩ := hsrc
      obtain ⟨b, off, rfl, hbH, hcell⟩ := hsrc hd0
      obtain ⟨x0, d1, rfl⟩ : ∃ x0 d1, d = x0 :: d1 := by
        cases d with
        | nil => exact absurd rfl hd0
        | cons x0 d1 => exact ⟨x0, d1, rfl⟩
      have Hdb : Hid (∀ z ∈ x0 :: d1, z < 256) := by
        obtain ⟨x, hx, _⟩ := hcr.cont
        exact fun z hz => HB.out z (by rw [hx]; exact List.mem_append_right _ hz)
      have hx0 : x0 < 256 := Hdb.out x0 (by simp)
      have g0 : wr.cell? ⟨b, off, none⟩ = some (.int .u8 (x0 : Nat)) := by
        rw [hcr.blw.cell (p := ⟨b, off, none⟩) hbH]
        exact hcell 0 x0 rfl
      have hm0 : 0 < (x0 :: d1).length := by simp
      have hdm : (x0 :: d1).length ≤ 5000 := by
        obtain ⟨x, hx, _⟩ := hcr.cont
        have := congrArg List.length hx
        rw [List.length_append] at this
        omega
      obtain ⟨m, hm⟩ : ∃ m, (x0 :: d1).length = m := ⟨_, rfl⟩
      rw [hm] at hm0 hdm hcap hgk ⊢
      have Hm := Lib.hid hm; clear hm
      have Hgk := Lib.hid hgk; clear hgk
      have HC := Lib.hid hcr; clear hcr
      have Hcell := Lib.hid hcell; clear hcell
      clear hd0
      have g7 : wr.cell? ⟨H + 4, 0, none⟩ = some lv := by rw [cell_blk HC.out.enc.li]; rfl
      obtain ⟨pl, cl, hlv⟩ := owns_form HC.out.enc.lo
      obtain ⟨L, hL⟩ : ∃ L, L = listOf D last (x0 :: d1) := ⟨_, rfl⟩
      rw [← hL] at hlv
      obtain ⟨ln, hln⟩ : ∃ ln, L.length = ln := ⟨_, rfl⟩
      rw [hln] at hlv
      have hlnb : ln ≤ 4092 := by
        have h1 := HC.out.few
        have h2 := listOf_length D last (x0 :: d1)
        rw [← hL] at h2
        omega
      subst hlv
      have Hln := Lib.hid hln; clear hln
      have HL := Lib.hid hL; clear hL
      go_upto_block 2 with fail
      go_cut [11, 12] (fun s11 s12 wx => ∃ c n q, s11 = .int .i64 (c : Nat) ∧ s12 = .int .i64 (n : Nat) ∧ Found L (x0 :: d1) c n ∧ wx = wr.drewN q)
      case first =>
        go_wp2_with fail
        go_loopg [11, 12, 31] ln (fun gk2 s11 s12 s31 wx => ∃ k c n q, gk2 = ln - k ∧ k ≤ ln ∧ s11 = .int .i64 (c : Nat) ∧ s12 = .int .i64 (n : Nat) ∧ s31 = .int .i64 (k : Nat) ∧ Found L (x0 :: d1) c n ∧ wx = wr.drewN q)
        case atStart => exact ⟨0, x0, 1, 0, by omega, by omega, rfl, rfl, rfl, .one, rfl⟩
        case round =>
          obtain ⟨k, c, n, q, hgk2, hk, rfl, rfl, rfl, hf, rfl⟩ := hrel
          have Hgk2 := Lib.hid hgk2; clear hgk2
          have HF := Lib.hid hf; clear hf
          by_cases hlt : k < ln
          · obtain ⟨gl, cl2, hpl, hgl, _⟩ := owns_slice (HL.out ▸ HC.out.enc.lo) (by have := Hln.out; omega)
            rw [Hln.out] at hpl
            obtain ⟨word, hword⟩ : ∃ word, L[k]? = some word := ⟨_, List.getElem?_eq_getElem (by have := Hln.out; omega)⟩
            obtain ⟨xk, hxk⟩ : ∃ xk, vals[k]? = some xk := ⟨_, List.getElem?_eq_getElem (by have := HC.out.enc.lo.1; rw [← HL.out, Hln.out] at this; omega)⟩
            obtain ⟨hwo, _⟩ := HC.out.enc.words k xk word hxk (HL.out ▸ hword)
            have hck : wr.cell? ⟨gl, k, none⟩ = some xk := by
              have hlo := HC.out.enc.lo
              rw [← HL.out, Hln.out, hpl] at hlo
              rw [hlo.cellAt k (by omega)]
              exact hxk
            obtain ⟨pk, ck, rfl⟩ := owns_form hwo
            cases hpl
            have Hxk := Lib.hid hxk; clear hxk
            have Hword := Lib.hid hword; clear hword
            have Hwo := Lib.hid hwo; clear hwo
            obtain ⟨wl, hwl⟩ : ∃ wl, word.length = wl := ⟨_, rfl⟩
            rw [hwl] at hck
            have Hwl := Lib.hid hwl; clear hwl
            obtain ⟨W, hW⟩ : ∃ W, wr.drewN q = W := ⟨_, rfl⟩
            have hck2 : W.cell? ⟨gl, k, none⟩ = some (.slice pk wl ck) := by rw [← hW]; exact hck
            rw [hW]
            have HW := Lib.hid hW; clear hW
            clear hck
            have HcW : Hid (∀ i x, (x0 :: d1)[i]? = some x → W.cell? ⟨b, off + i, none⟩ = some (.int .u8 (x : Nat))) := fun i x hx => by
              rw [← HW.out]
              show wr.cell? _ = _
              rw [HC.out.blw.cell (p := ⟨b, off + i, none⟩) hbH]
              exact Hcell.out i x hx
            by_cases hA : n < wl
            · have hAd : decide (n < wl) = true := by simpa using hA
              by_cases hB : wl ≤ m
              · have hBd : decide (wl ≤ m) = true := by simpa using hB
                have hBc : wl ≤ cap := by omega
                obtain ⟨gk, ck2, hpk, hgk, _⟩ := owns_slice Hwo.out (by have := Hwl.out; omega)
                rw [Hwl.out] at hpk
                cases hpk
                have hcv1 : ∀ nq, (convert 22 9 (.slice (some ⟨b, off, none⟩) wl cap)).run Tryd.prog (W.drewN nq) = .ok (.string (str ((x0 :: d1).take wl))) (W.drewN nq) := fun nq => by
                  have h := conv_bytes (W.drewN nq) b off cap ((x0 :: d1).take wl) (fun i x hx => HcW.out i x (by
                    rw [List.getElem?_take] at hx
                    split at hx
                    · exact hx
                    · cases hx))
                  rw [List.length_take, Nat.min_eq_left (by have := Hm.out; omega)] at h
                  exact h
                have hcv2 : ∀ nq, (convert 22 9 (.slice (some ⟨gk, 0, none⟩) wl ck)).run Tryd.prog (W.drewN nq) = .ok (.string (str word)) (W.drewN nq) := fun nq => by
                  have h := conv_bytes (W.drewN nq) gk 0 ck word (fun i x hx => by
                    have hw2 := Hwo.out
                    rw [Hwl.out] at hw2
                    have hi : i < wl := by have := (List.getElem?_eq_some_iff.1 hx).1; have := Hwl.out; omega
                    rw [← HW.out, Nat.zero_add]
                    show wr.cell? _ = _
                    rw [hw2.cellAt i (by omega), u8v_get, hx]
                    rfl)
                  rw [Hwl.out] at h
                  exact h
                by_cases hE : (x0 :: d1).take wl = word
                · have hEs : ((str ((x0 :: d1).take wl)).toList == (str word).toList) = true := by rw [hE]; exact str_eq _
                  have HE2 := Lib.hid hE; clear hE
                  generalize str ((x0 :: d1).take wl) = S1 at *
                  generalize str word = S2 at *
                  go_upto_region 13 with fail
                  go_quiet (fail)
                  go_wp2_with fail
                  go_roundg (ln - (k + 1))
                  case measure => have := Hgk2.out; omega
                  case rel => exact ⟨k + 1, 258 + k, wl, q + nq, rfl, by omega, by go_num, rfl, by go_num, Hwl.out ▸ .word k word Hword.out (by rw [Hwl.out]; exact HE2.out) (by have := Hwl.out; have := Hm.out; omega), by rw [← HW.out, World.drewN_drewN]⟩
                · have hEs : ((str ((x0 :: d1).take wl)).toList == (str word).toList) = false := str_ne _ _ (fun x hx => Hdb.out x (List.mem_of_mem_take hx)) ((HC.out.wb word (HL.out ▸ List.mem_of_getElem? Hword.out)).2) hE
                  clear hE
                  generalize str ((x0 :: d1).take wl) = S1 at *
                  generalize str word = S2 at *
                  go_upto_region 13 with fail
                  go_quiet (fail)
                  go_wp2_with fail
                  go_roundg (ln - (k + 1))
                  case measure => have := Hgk2.out; omega
                  case rel => exact ⟨k + 1, c, n, q + nq, rfl, by omega, rfl, rfl, by go_num, HF.out, by rw [← HW.out, World.drewN_drewN]⟩
              · have hBd : decide (wl ≤ m) = false := by simpa using hB
                go_upto_region 13 with fail
                go_quiet (fail)
                go_wp2_with fail
                go_roundg (ln - (k + 1))
                case measure => have := Hgk2.out; omega
                case rel => exact ⟨k + 1, c, n, q + nq, rfl, by omega, rfl, rfl, by go_num, HF.out, by rw [← HW.out, World.drewN_drewN]⟩
            · have hAd : decide (n < wl) = false := by simpa using hA
              go_upto_region 13 with fail
              go_quiet (fail)
              go_wp2_with fail
              go_roundg (ln - (k + 1))
              case measure => have := Hgk2.out; omega
              case rel => exact ⟨k + 1, c, n, q + nq, rfl, by omega, rfl, rfl, by go_num, HF.out, by rw [← HW.out, World.drewN_drewN]⟩
          · go_wp2_with fail
            go_meet
            case rel => exact ⟨c, n, q, rfl, rfl, HF.out, rfl⟩
      case rest =>
        obtain ⟨c, n, q, rfl, rfl, hf, rfl⟩ := hcut
        obtain ⟨W, hW⟩ : ∃ W, wr.drewN q = W := ⟨_, rfl⟩
        rw [hW]
        have hE : Enc H bs (258 + D.length) count L v (.slice pl ln cl) vals W := by rw [← hW, HL.out]; exact HC.out.enc.drewN q
        have hBW : Below H w W := by rw [← hW]; exact ⟨HC.out.blw.os, HC.out.blw.tape, HC.out.blw.output, HC.out.blw.size, HC.out.blw.block⟩
        clear hW g0 g7
        obtain ⟨known, hkn⟩ : ∃ known, 258 + D.length = known := ⟨_, rfl⟩
        rw [hkn] at hE
        have Hkn := Lib.hid hkn; clear hkn
        have HF := Lib.hid hf; clear hf
        have HBW := Lib.hid hBW; clear hBW
        have c1 : W.cell? ⟨H + 1, 0, none⟩ = some (.pointer (some ⟨H, 0, none⟩)) := by rw [cell_blk hE.wv]; rfl
        have c2 : W.cell? ⟨H + 2, 0, none⟩ = some (.int .i64 (known : Nat)) := by rw [cell_blk hE.kn]; rfl
        have HE3 := Lib.hid hE; clear hE
        have hk4 : known ≤ 4092 := by have := Hkn.out; have := HC.out.few; omega
        go_upto_region 16 with fail
        go_cut [] (fun wx => Wrote W (H + 6) H v (bs ++ msb c (lw known)) wx)
        case first =>
          refine wp_region_still_tail 4 (by kernel_rfl) (by kernel_rfl) ?_
          simp only [List.take_succ_cons, List.take_zero, List.drop_succ_cons, List.drop_zero]
          still_step
          still_step
          still_step
          still_call ((width_any known _ (by omega)).mono fun e w' ⟨he, hw⟩ => ⟨he, hw.symm⟩)
          refine wpStill_nil ?_
          change wpList _ _ _ _ _ W.drew
          go_wp2_with fail
          refine (word_any c (lw known) _ (H + 6) H v bs HE3.out.px.drew (lw_le known) ?hbits).mono ?_
          case hbits => (obtain ⟨x, hx, _, hbl, _⟩ := HC.out.cont; have := congrArg List.length hx; rw [List.length_append] at this; omega)
          rintro e w2 ⟨rfl, hw2⟩
          go_wp2_with fail
          go_meet
          case rel => exact hw2.of_drew
        case rest =>
          obtain ⟨v2, hE2, hB2⟩ := HE3.out.put hcut
          clear c1 c2 hcut
          have d8 : wc.cell? ⟨H + 5, 0, none⟩ = some (.int .i64 (count : Nat)) := by rw [cell_blk hE2.co]; rfl
          have d6 : wc.cell? ⟨H + 2, 0, none⟩ = some (.int .i64 (known : Nat)) := by rw [cell_blk hE2.kn]; rfl
          have f6 := frz_blk hE2.kn 0
          have HB3 := Lib.hid (HBW.out.trans hB2); clear hB2
          have HE4 := Lib.hid hE2; clear hE2
          obtain ⟨D2, hD2⟩ : ∃ D2, D2 = ext D last ((x0 :: d1).take n) := ⟨_, rfl⟩
          obtain ⟨known2, hkn2⟩ : ∃ known2, 258 + D2.length = known2 := ⟨_, rfl⟩
          have hcnt := HC.out.cnt
          have hd0 := HC.out.d0
          have hext : (last = none → known2 = known) ∧ (last ≠ none → known2 = known + 1) := by
            have := Hkn.out
            cases last with
            | none => exact ⟨fun _ => by rw [← hkn2, hD2, ext_none, this], fun h => absurd rfl h⟩
            | some pr => obtain ⟨lc, lw0⟩ := pr; exact ⟨fun h => (by cases h), fun _ => by rw [← hkn2, hD2, ext_some, List.length_append]; simp; omega⟩
          have Hext := Lib.hid hext; clear hext
          have HD2 := Lib.hid hD2; clear hD2
          have Hkn2 := Lib.hid hkn2; clear hkn2
          have Hcnt := Lib.hid hcnt; clear hcnt
          clear hd0
          go_upto_if 68 with fail
          go_cut [] (fun wx => Enc H (bs ++ msb c (lw known)) known2 count L v2 (.slice pl ln cl) vals wx ∧ Below H w wx)
          case first =>
            by_cases h0 : count = 0
            · subst h0
              have hk2 : known2 = known := Hext.out.1 (Hcnt.out.2 rfl)
              have Hk2 := Lib.hid hk2; clear hk2
              go_wp2_with fail
              go_meet
              case rel => exact ⟨Hk2.out ▸ HE4.out, HB3.out⟩
            · have hk2 : known2 = known + 1 := Hext.out.2 (fun e => h0 (Hcnt.out.1 e))
              have h0' : (0 : Int) < (count : Int) := by omega
              have Hk2 := Lib.hid hk2; clear hk2
              go_wp2_with fail
              go_meet
              case rel =>
                rw [Hk2.out]
                exact ⟨HE4.out.setKnown (known + 1), HB3.out.setCell (p := ⟨H + 2, 0, none⟩) (show H ≤ H + 2 by omega) _⟩
          case rest =>
            obtain ⟨hE5, hB5⟩ := hcut
            clear d8 d6 f6
            have hn : 1 ≤ n ∧ n ≤ m := HF.out.bounds (fun u hu => (HC.out.wb u (HL.out ▸ hu)).1) (by simp) Hm.out
            have hn1 := hn.1
            have hn2 := hn.2
            clear hn
            have hncap : n ≤ cap := by omega
            have hsz : H + 6 ≤ wc.heap.size := hE5.px.hb
            have hcw : ∀ i x, (x0 :: d1)[i]? = some x → wc.cell? ⟨b, off + i, none⟩ = some (.int .u8 (x : Nat)) := fun i x hx => by
              rw [hB5.cell (p := ⟨b, off + i, none⟩) hbH]
              exact Hcell.out i x hx
            have Hcw := Lib.hid hcw; clear hcw
            obtain ⟨i5, hi5, hz0, hz1, hz2⟩ := info_parts info5
            have hown0 : (wc.alloc (.cells #[] 5)).ownsRow (H + 6) 5 1 (.slice (some ⟨wc.heap.size, 0, none⟩) 0 0) 0 [] :=
              World.ownsRow_made wc #[] 0 (by omega) (by decide) (by simp)
            obtain ⟨wd, hwd⟩ : ∃ wd, (x0 :: d1).take n = wd := ⟨_, rfl⟩
            have hwdl : wd.length = n := by rw [← hwd, List.length_take]; have := Hm.out; omega
            have Hwdl := Lib.hid hwdl; clear hwdl
            have hnews : ∀ j u, (u8v wd)[j]? = some u → (wc.alloc (.cells #[] 5)).cell? ((⟨b, off, none⟩ : Addr).add j) = some u := fun j u hu => by
              rw [u8v_get] at hu
              obtain ⟨x, hx, rfl⟩ := Option.map_eq_some_iff.1 hu
              have hx2 : (x0 :: d1)[j]? = some x := by
                rw [← hwd, List.getElem?_take] at hx
                split at hx
                · exact hx
                · cases hx
              have h1 := Hcw.out j x hx2
              rw [addr_add]
              exact ((Kp.refl (fun _ => False) wc).alloc _).cell h1 id
            have HNews := Lib.hid hnews; clear hnews
            have Hwd := Lib.hid hwd; clear hwd
            have HE5 := Lib.hid hE5; clear hE5
            have HB5 := Lib.hid hB5; clear hB5
            go_upto_region 20 with (at_builtin; refine wpList_append_fresh _ rfl _ _ 22 rfl (H + 6) 5 i5 (.int .u8 0) 1 Tryd.underlying22 hi5 hz0 hz1 hz2 rfl _ _ _ rfl hown0 ⟨b, off, none⟩ n cap (u8v wd) rfl ?c1 HNews.out ?c2 ?c3 ?c4 ?c5 ?_)
            case c1 => rw [u8v_length]; exact Hwdl.out
            case c2 => exact u8v_one wd
            case c3 => unfold maxLen; omega
            case c4 => omega
            case c5 => simp; omega
            intro v3 w3 hown3 hk3 hob3
            go_upto_region 20 with fail
            have hkc : Kp (fun k => wc.heap.size ≤ k) wc w3 := ((Kp.refl _ wc).alloc _).trans hk3 (fun k _ e => by simp [Value.ownBlock] at e; omega)
            have hE6 := HE5.out.newer hkc (fun k hk e => by omega)
            have hB6 : Below H w w3 := HB5.out.trans (hkc.below (fun k hk e => by omega) (by omega))
            have hv3 : ∀ g, v3.ownBlock = some g → v2.ownBlock ≠ some g := fun g hg e => by
              have h1 := (HE5.out.px.own.lt g e).2
              rcases hob3 g hg with h2 | h2
              · simp [Value.ownBlock] at h2; omega
              · first | omega | (simp at h2; omega)
            have hown3 : w3.ownsRow (H + 6) 5 1 v3 n (u8v wd) := by simpa using hown3
            have hv3x : ∀ (k : Nat) (x : Value) (g : Nat), vals[k]? = some x → x.ownBlock = some g → v3.ownBlock ≠ some g := fun k x g hx hg e => by
              have h1 := HE5.out.word_lt hx hg
              rcases hob3 g e with h2 | h2
              · simp [Value.ownBlock] at h2; omega
              · first | omega | (simp at h2; omega)
            have Hv3x := Lib.hid hv3x; clear hv3x
            have HE6 := Lib.hid hE6; clear hE6
            have HB6 := Lib.hid hB6; clear hB6
            have Hown3 := Lib.hid hown3; clear hown3
            have Hv3 := Lib.hid hv3; clear hv3
            clear hkc hk3 hob3
            obtain ⟨d2, hd2⟩ : ∃ d2, (x0 :: d1).drop n = d2 := ⟨_, rfl⟩
            have hd2l : d2.length = m - n := by rw [← hd2, List.length_drop]; have := Hm.out; omega
            have Hd2l := Lib.hid hd2l; clear hd2l
            have Hd2 := Lib.hid hd2; clear hd2
            go_cut [0] (fun s0 wx => SrcAt H w s0 d2 ∧ w3 = wx)
            case first =>
              have hsrc2 : Hid (∀ i x, d2[i]? = some x → w.cell? ⟨b, off + n + i, none⟩ = some (.int .u8 (x : Nat))) := fun i x hx => by
                rw [← Hd2.out, List.getElem?_drop] at hx
                have h := Hcell.out (n + i) x hx
                rw [← Nat.add_assoc] at h
                exact h
              by_cases hnc : n = cap
              · have hmn : m = n := by omega
                subst hmn
                subst hnc
                go_wp2_with fail
                go_meet
                case rel => exact ⟨⟨_, 0, by rw [Hd2l.out, Nat.sub_self], by rw [Hd2l.out]; omega, fun h => absurd (List.eq_nil_of_length_eq_zero (by rw [Hd2l.out]; omega)) h⟩, rfl⟩
              · have hnc2 : n < cap := by omega
                go_wp2_with fail
                go_meet
                case rel => exact ⟨⟨_, cap - n, by rw [Hd2l.out], by rw [Hd2l.out]; omega, fun _ => ⟨b, off + n, rfl, hbH, hsrc2.out⟩⟩, rfl⟩
            case rest =>
              obtain ⟨hs2, rfl⟩ := hcut
              obtain ⟨p2, cap2, rfl, hcap2, hs3⟩ := hs2
              obtain ⟨m2, hm2⟩ : ∃ m2, d2.length = m2 := ⟨_, rfl⟩
              rw [hm2] at hcap2 ⊢
              have Hm2 := Lib.hid hm2; clear hm2
              have d8 : w3.cell? ⟨H + 5, 0, none⟩ = some (.int .i64 (count : Nat)) := by rw [cell_blk HE6.out.co]; rfl
              have f8 := frz_blk HE6.out.co 0
              have hcb : count ≤ 5000 := by
                obtain ⟨x, hx, _, _, hc⟩ := HC.out.cont
                have := congrArg List.length hx
                rw [List.length_append] at this
                omega
              obtain ⟨L2, hL2⟩ : ∃ L2, L2 = listOf D2 (some (c, wd)) d2 := ⟨_, rfl⟩
              have HL2 := Lib.hid hL2; clear hL2
              have HS3 := Lib.hid hs3; clear hs3
              go_upto_if 83 with fail
              go_cut [] (fun wx => ∃ lv2 vals2, Enc H (bs ++ msb c (lw known)) known2 (count + 1) L2 v2 lv2 vals2 wx ∧ Below H w wx)
              case first =>
                have hnx := HC.out.plain.next (d := x0 :: d1) (by simp) HB.out (c := c) (n := n) (by rw [← HL.out]; exact HF.out)
                rw [Hwd.out, ← HL.out, Hd2.out] at hnx
                have hD2L : D2 = L := by rw [HD2.out, Hwd.out]; exact hnx.2
                have HD2L := Lib.hid hD2L; clear hD2L hnx
                have hE7 := HE6.out.setCount (count + 1)
                have hB7 := HB6.out.setCell (p := ⟨H + 5, 0, none⟩) (show H ≤ H + 5 by omega) (.int .i64 ((count : Nat) + 1 : Int))
                have HE7 := Lib.hid hE7; clear hE7
                have HB7 := Lib.hid hB7; clear hB7
                by_cases h0 : m2 = 0
                · subst h0
                  go_wp2_with fail
                  go_meet
                  case rel =>
                    have e : L2 = L := by
                      rw [HL2.out, List.eq_nil_of_length_eq_zero Hm2.out, ← HD2L.out]; rfl
                    rw [e]
                    exact ⟨_, _, HE7.out, HB7.out⟩
                · have h0' : 0 < m2 := by omega
                  obtain ⟨y, d3, hyd⟩ : ∃ y d3, d2 = y :: d3 := by
                    cases hd2 : d2 with
                    | nil => have := Hm2.out; rw [hd2] at this; simp at this; omega
                    | cons y d3 => exact ⟨y, d3, rfl⟩
                  obtain ⟨b2, off2, rfl, hb2H, hs4⟩ := HS3.out (by rw [hyd]; simp)
                  have hy0 := hs4 0 y (by rw [hyd]; rfl)
                  have Hyd := Lib.hid hyd; clear hyd
                  clear hs4
                  go_upto_region 23 with fail
                  obtain ⟨W7, hW7⟩ : ∃ W7, w3.setCell ⟨H + 5, 0, none⟩ (.int .i64 ((count : Nat) + 1 : Int)) = W7 := ⟨_, rfl⟩
                  have hE8 : Enc H (bs ++ msb c (lw known)) known2 (count + 1) L v2 (.slice pl ln cl) vals W7 := hW7 ▸ HE7.out
                  have hB8 : Below H w W7 := hW7 ▸ HB7.out
                  have k7 : Kp (fun k => k = H + 5) w3 W7 := by rw [← hW7]; exact (Kp.refl _ w3).setCell _ _ (.inl rfl)
                  rw [hW7]
                  have HW7 := Lib.hid hW7; clear hW7 d8 f8
                  have e1 : W7.cell? ⟨H + 4, 0, none⟩ = some (.slice pl ln cl) := by rw [cell_blk hE8.li]; rfl
                  have e2 : W7.cell? ⟨b2, off2, none⟩ = some (.int .u8 (y : Nat)) := by rw [hB8.cell (p := ⟨b2, off2, none⟩) hb2H]; exact hy0
                  have e3 := frz_blk hE8.li 0
                  have hown7 : W7.ownsRow (H + 6) 5 1 v3 n (u8v wd) := k7.row Hown3.out (fun g hg e => by have := (Hown3.out.lt g hg).1; omega)
                  have HE8 := Lib.hid hE8; clear hE8
                  have HB8 := Lib.hid hB8; clear hB8
                  have Hown7 := Lib.hid hown7; clear hown7
                  clear k7
                  have hs7 : H + 6 ≤ W7.heap.size := HE8.out.px.hb
                  have hs74 : H + 4 < W7.heap.size := by omega
                  obtain ⟨i22, hi22, hy0, hy1, hy2⟩ := info_parts info22
                  go_region_law (first | (refine step_append_fresh rfl _ _ 22 rfl (H + 6) 5 i5 (.int .u8 0) 1 Tryd.underlying22 hi5 hz0 hz1 hz2 rfl v3 n (u8v wd) rfl (Hown7.out.alloc (.cells #[.int .u8 (y : Nat)] 5)).drew ⟨W7.heap.size, 0, none⟩ 1 1 [.int .u8 (y : Nat)] rfl rfl ?_ ?_ ?_ ?_ ?_ ?_; exact cell_new1 W7 _ _; exact u8v_one [y]; (unfold maxLen; omega); omega; (show H + 6 ≤ (W7.alloc _).heap.size; simp; omega); intro v4 w4 hown4 hk4 hob4; obtain ⟨g4, cap4, hv4, hg4, hl4⟩ := owns_slice hown4 (by omega); subst hv4; have HE9 := Lib.hid (HE8.out.tail Hown7.out hk4 Hv3.out Hv3x.out); have Hob4 := Lib.hid hob4; have Hk4 := Lib.hid hk4; have Hown4 := Lib.hid hown4; clear hob4 hk4 hown4; have hs9 : H + 6 ≤ w4.heap.size := HE9.out.px.hb; have hs94 : H + 4 < w4.heap.size := (by omega); have e4 : w4.cell? ⟨H + 4, 0, none⟩ = some (.slice pl ln cl) := (by rw [cell_blk HE9.out.li]; rfl)) | (refine step_append_fresh rfl _ _ 43 rfl (H + 3) 22 i22 (.slice none 0 0) 24 Tryd.underlying43 hi22 hy0 hy1 hy2 rfl (.slice pl ln cl) ln vals rfl ((Hln.out ▸ HE9.out.lo).alloc (.cells #[.slice (some ⟨g4, 0, none⟩) (n + 1) cap4] 22)) ⟨w4.heap.size, 0, none⟩ 1 1 [.slice (some ⟨g4, 0, none⟩) (n + 1) cap4] rfl rfl ?_ ?_ ?_ ?_ ?_ ?_; exact cell_new1 w4 _ _; (intro u hu; rw [List.mem_singleton] at hu; subst hu; rfl); (unfold maxLen; omega); omega; (simp; omega); intro v5 w5 hown5 hk5 hob5; obtain ⟨g5, cap5, hv5, hg5, hl5⟩ := owns_slice hown5 (by omega); subst hv5; have hblk5 := hk5.heap ((HE9.out.alloc (.cells #[.slice (some ⟨g4, 0, none⟩) (n + 1) cap4] 22)).li) (fun e => by have := HE9.out.lb _ e; omega); have e5 : w5.cell? ⟨H + 4, 0, none⟩ = some (.slice pl ln cl) := (by rw [cell_blk hblk5]; rfl); have f5 := frz_blk hblk5 0; have Hob5 := Lib.hid hob5; have Hk5 := Lib.hid hk5; have Hown5 := Lib.hid hown5; clear hob5 hk5 hown5 hblk5))
                  all_goals (go_wp2_with fail; go_meet)
                  all_goals
                    have eL : L2 = L ++ [wd ++ [y]] := by rw [HL2.out, Hyd.out]; show D2 ++ [wd ++ [y]] = _; rw [HD2L.out]
                    rw [eL]
                    exact ⟨_, _, HE8.out.leaf HB8.out Hv3.out Hown7.out HE9.out Hk4.out Hown4.out Hob4.out Hown5.out Hk5.out Hob5.out Hwdl.out Hln.out⟩
              case rest =>
                obtain ⟨lv2, vals2, hE9, hB9⟩ := hcut
                clear d8 f8
                have d8 : wc.cell? ⟨H + 5, 0, none⟩ = some (.int .i64 ((count : Nat) + 1 : Int)) := by rw [cell_blk hE9.co]; rfl
                have d6 : wc.cell? ⟨H + 2, 0, none⟩ = some (.int .i64 (known2 : Nat)) := by rw [cell_blk hE9.kn]; rfl
                have hnx := HC.out.plain.next (d := x0 :: d1) (by simp) HB.out (c := c) (n := n) (by rw [← HL.out]; exact HF.out)
                rw [Hwd.out, Hd2.out, Hkn.out] at hnx
                have hnx1 : CN data d2 (bs ++ msb c (lw known)) D2 c (count + 1) wd := by
                  have e : D2 = ext D last wd := by rw [HD2.out, Hwd.out]
                  rw [e]; exact hnx.1
                have Hnx := Lib.hid hnx1; clear hnx1 hnx
                have hkn3 : known2 ≤ 4093 := by have := Hnx.out.few; have := Hkn2.out; omega
                have HE9 := Lib.hid hE9; clear hE9
                have HB9 := Lib.hid hB9; clear hB9
                have hev0 : ev < 400 := hev2
                go_upto_region 24 with fail
                have hways : (0 < ev ∧ ev ≤ (count : Int) + 1) ∨ (0 < ev ∧ ¬ ev ≤ (count : Int) + 1 ∧ 4093 ≤ known2) ∨ (0 < ev ∧ ¬ ev ≤ (count : Int) + 1 ∧ ¬ 4093 ≤ known2) ∨ (¬ 0 < ev ∧ 4093 ≤ known2) ∨ (¬ 0 < ev ∧ ¬ 4093 ≤ known2) := by omega
                have stay : ¬ 4093 ≤ known2 → CRel H w data d2 wc := fun h => ⟨_, _, _, _, _, _, _, CR.of (by rw [Hkn2.out, ← HL2.out]; exact HE9.out) HB9.out (Hnx.out.stay (by rw [Hkn2.out]; exact h))⟩
                have Hstay := Lib.hid stay; clear stay
                rcases hways with ⟨h1, h2⟩ | ⟨h1, h2, h3⟩ | ⟨h1, h2, h3⟩ | ⟨h1, h3⟩ | ⟨h1, h3⟩
                all_goals go_wp2_with fail
                all_goals first
                  | (refine (clear_any H (bs ++ msb c (lw known)) known2 (count + 1) L2 v2 lv2 vals2 wc HE9.out (by omega) ?_).mono ?_
                     · obtain ⟨x, hx, _, hbl, _⟩ := Hnx.out.cont
                       have := congrArg List.length hx
                       rw [List.length_append] at this
                       omega
                     rintro e w9 ⟨rfl, v9, lv9, hE10, hB10⟩
                     have HE10 := Lib.hid hE10; clear hE10
                     have HB10 := Lib.hid hB10; clear hB10
                     go_wp2_with fail
                     go_roundg d2.length
                     case measure => have := Hd2l.out; have := Hgk.out; omega
                     case rel => exact ⟨d2, rfl, ⟨p2, cap2, by rw [Hm2.out], by rw [Hm2.out]; exact hcap2, HS3.out⟩, _, _, _, _, _, _, _, CR.of (D := []) (last := .none) HE10.out (HB9.out.trans HB10.out) (Hkn2.out ▸ Hnx.out.clear)⟩)
                  | (go_roundg d2.length
                     case measure => have := Hd2l.out; have := Hgk.out; omega
                     case rel => exact ⟨d2, rfl, ⟨p2, cap2, by rw [Hm2.out], by rw [Hm2.out]; exact hcap2, HS3.out⟩, Hstay.out h3⟩)
end Go.Proofs.YtgghadfelagghaaDoor

/-
  'Read' of the decoder: what a call of it leaves.
  Conditions: those of Env; the slice given is a row of 512 bytes of its own.
-/
import Derived.Test.YtgghadfelagghaaDoorDecode
import Derived.Deep.LoopGhost
import Derived.Deep.QuietTactic
import Derived.BigQuiet
namespace Go.Proofs.YtgghadfelagghaaDoor
open Go Go.RowKit
/-- copy into the head of a row of bytes -/
theorem wpList_copy_buf {ops : Array Oper} {rest : List Oper} {op : Oper} {a : Act} {w : World} {Q : Exit → Act → World → Prop} (hgd : op.guard = none) (d s : Operand)
    (hop : op.op = .call { callee := .builtin .copy, args := #[d, s], argTypes := #[22, 22] }) (bb bd off : Nat) (cur : Array Value) (hbb : w.heap[bb]? = some (.cells cur 5 (0, 0))) (dLen dCap sLen sCap n : Nat)
    (hd : a.eval d = .slice (some ⟨bb, 0, none⟩) dLen dCap) (hs : a.eval s = .slice (some ⟨bd, off, none⟩) sLen sCap) (hcur : cur.size = dLen) (p : List Nat) (hp : p.length = sLen) (hn : n = Nat.min sLen dLen)
    (hsrc : ∀ i x, p[i]? = some x → w.cell? ⟨bd, off + i, none⟩ = some (.int .u8 (x : Nat)))
    (h : ∀ (w' : World) (cur' : Array Value), w'.heap[bb]? = some (.cells cur' 5 (0, 0)) → cur'.size = cur.size → (∀ (i x : Nat), (p.take n)[i]? = some x → cur'[i]? = some (Value.int .u8 (x : Nat))) → Kp (fun k => k = bb) w w' → wpList Tryd.prog ops Q rest (a.put op.dst (.int .i64 (n : Nat))) w') :
    wpList Tryd.prog ops Q (op :: rest) a w := by
  have hlen : ((p.take n).map fun b => Value.int .u8 (b : Nat)).length = n := by
    rw [List.length_map, List.length_take]
    have : n ≤ sLen := by rw [hn]; exact Nat.min_le_left _ _
    omega
  have hnd : n ≤ dLen := by rw [hn]; exact Nat.min_le_right _ _
  refine wpList_plain hgd fun K hK => ?_
  have hrun := run_copy_row (P := Tryd.prog) w 22 22 op.type 5 bb 0 dLen dCap ⟨bd, off, none⟩ sLen sCap cur 5 ((p.take n).map fun b => Value.int .u8 (b : Nat)) Tryd.underlying22 size5 hbb (by rw [hlen, hn])
    (fun j v hj => by
      rw [List.getElem?_map] at hj
      obtain ⟨x, hx, rfl⟩ := Option.map_eq_some_iff.1 hj
      rw [addr_add']
      refine hsrc j x ?_
      rw [List.getElem?_take] at hx
      split at hx
      · exact hx
      · cases hx)
    (by rw [hlen]; omega)
    (fun v hv => by
      rw [List.mem_map] at hv
      obtain ⟨x, _, rfl⟩ := hv
      rfl)
  have hfin := h (w.setRow bb (cur.toList.take 0 ++ (((p.take n).map fun b => Value.int .u8 (b : Nat)) ++ cur.toList.drop (0 + ((p.take n).map fun b => Value.int .u8 (b : Nat)).length))).toArray) _ (setRow_heap w bb cur _ 5 _ hbb) (by simp; omega) (fun i x hx => by
    rw [splice_get cur 0 _ (by rw [hlen]; omega), if_neg (by omega), if_pos (by rw [hlen]; have := (List.getElem?_eq_some_iff.1 hx).1; rw [List.length_take] at this; omega), Nat.sub_zero, List.getElem?_map, hx]
    rfl) (setRow_kp _ _ _)
  unfold Oper.wp execOp
  simp only [hop, resolve, invoke, builtin, Sem.run_bind, Sem.run_pure, Result.andThen_ok, List.map_toArray, List.map_cons, List.map_nil, hd, hs, hrun]
  rw [hlen] at hfin ⊢
  rw [List.append_assoc]
  exact hK _ _ hfin
/-- between the calls of Read: the bytes p lie ready, the bytes rest are to be decoded -/
def RS (bd br : Nat) (sv : Value) (src : List Nat) (ea : Addr) (p rest : List Nat) (w : World) : Prop :=
  ∃ s, DW bd br s w ∧ s.o = 0 ∧ (∃ ad cap, s.rd = .slice ad p.length cap ∧ p.length ≤ cap ∧ (p ≠ [] → ∃ q, ad = some ⟨bd, 8204 + q, none⟩ ∧ q + p.length ≤ 8192 ∧ ∀ i x, p[i]? = some x → s.out (q + i) = x)) ∧
    ((∃ D last B, DK bd br sv src s D last B rest w) ∨ (s.err = .iface 68 (.pointer (some ea)) ∧ rest = []))
/-- what a call of Read leaves: a piece c of what is to come, or the end -/
def ReadPost (bd br bb : Nat) (sv : Value) (src : List Nat) (ea : Addr) (t : List Nat) (w : World) (e : Ending) (w' : World) : Prop :=
  Kp (fun k => k = bd ∨ k = br ∨ k = bb) w w' ∧
  ((∃ c p' rest' cur, t = c ++ (p' ++ rest') ∧ c ≠ [] ∧ c.length ≤ 512 ∧ e = .returned (.tuple #[.int .i64 (c.length : Nat), .nilIface]) ∧ w'.heap[bb]? = some (.cells cur 5 (0, 0)) ∧ (∀ (i x : Nat), c[i]? = some x → cur[i]? = some (Value.int .u8 (x : Nat))) ∧ RS bd br sv src ea p' rest' w') ∨
    (t = [] ∧ e = .returned (.tuple #[.int .i64 0, .iface 68 (.pointer (some ea))])))
/-- at the head of a round of Read -/
def RLoop (bd br bb : Nat) (sv : Value) (src : List Nat) (ea : Addr) (t : List Nat) (cur : Array Value) (w : World) (gk : Nat) (wr : World) : Prop :=
  ∃ p rest, t = p ++ rest ∧ RS bd br sv src ea p rest wr ∧ Kp (fun k => k = bd ∨ k = br) w wr ∧ wr.heap[bb]? = some (.cells cur 5 (0, 0)) ∧ (gk = 1 ∨ (gk = 0 ∧ (p ≠ [] ∨ (∃ s, DW bd br s wr ∧ s.err = .iface 68 (.pointer (some ea))))))
theorem Env.kp {bd br b off cap : Nat} {src : List Nat} {ea : Addr} {w0 w1 : World} (h : Env bd br b off cap src ea w0) {S : Nat → Prop} (hk : Kp S w0 w1) (h1 : ¬ S b) (h2 : ¬ S 0) : Env bd br b off cap src ea w1 :=
  ⟨fun i x hx => hk.cell (h.cell i x hx) h1, h.len, h.byte, h.n1, h.n2, h.n3, hk.cell h.eof h2, h.p1, h.p2⟩
theorem DK.tailb {bd br bb : Nat} {sv : Value} {src : List Nat} {s : DS} {D : List (List Nat)} {last : Option (Nat × List Nat)} {B : List Bool} {rest : List Nat} {w w' : World} (h : DK bd br sv src s D last B rest w) (hd : DW bd br s w') (hk : Kp (fun k => k = bb) w w') (hn : bb ≠ br) : DK bd br sv src s D last B rest w' :=
  ⟨hd, h.rp.kp hk (fun e => hn e.symm), h.str, h.inv, h.wd, h.hi, h.lst, h.ov, h.err⟩
theorem read_fin {bd br b off cap bb : Nat} {src : List Nat} {ea : Addr} {p rest t : List Nat} {s : DS} {w wr w2 : World} {cur2 : Array Value} {q m n cp2 : Nat} {ad2 : Option Addr} (ht : t = p ++ rest) (hm : p.length = m) (hn : n = Nat.min m 512) (hn0 : 0 < n)
    (hkp : Kp (fun k => k = bd ∨ k = br) w wr) (hk2 : Kp (fun k => k = bb) wr w2) (hdw2 : DW bd br s w2) (ho : s.o = 0) (hq : q + m ≤ 8192) (hpo : ∀ i x, p[i]? = some x → s.out (q + i) = x)
    (hend : (∃ D last B, DK bd br (.slice (some ⟨b, off, none⟩) src.length cap) src s D last B rest wr) ∨ (s.err = .iface 68 (.pointer (some ea)) ∧ rest = [])) (hb2 : w2.heap[bb]? = some (.cells cur2 5 (0, 0)))
    (hc2 : ∀ (i x : Nat), (p.take n)[i]? = some x → cur2[i]? = some (Value.int .u8 (x : Nat))) (n1 : bb ≠ bd) (n2 : bb ≠ br) (nb : br ≠ bd) (hcp : m - n ≤ cp2) (had : m - n ≠ 0 → ad2 = some ⟨bd, 8204 + (q + n), none⟩) :
    ReadPost bd br bb (.slice (some ⟨b, off, none⟩) src.length cap) src ea t w (.returned (.tuple #[.int .i64 (n : Nat), .nilIface])) (w2.setCell ⟨bd, 16397, none⟩ (.slice ad2 (m - n) cp2)) := by
  have hnm : n ≤ m := by rw [hn]; exact Nat.min_le_left _ _
  have hn512 : n ≤ 512 := by rw [hn]; exact Nat.min_le_right _ _
  have hlt : (p.take n).length = n := by rw [List.length_take, hm]; omega
  have hkk : Kp (fun k => k = bd) w2 (w2.setCell ⟨bd, 16397, none⟩ (.slice ad2 (m - n) cp2)) := (Kp.refl _ w2).st 16397 _
  have hdw3 : DW bd br { s with rd := .slice ad2 (m - n) cp2 } (w2.setCell ⟨bd, 16397, none⟩ (.slice ad2 (m - n) cp2)) := hdw2.set fun C hC => hC.setRd _
  have hld : (p.drop n).length = m - n := by rw [List.length_drop, hm]
  have hkF : Kp (fun k => k = bd ∨ k = br ∨ k = bb) w (w2.setCell ⟨bd, 16397, none⟩ (.slice ad2 (m - n) cp2)) :=
    ((hkp.mono (S' := fun k => k = bd ∨ k = br ∨ k = bb) fun _ _ e => e.elim .inl fun h => .inr (.inl h)).trans hk2 (fun _ _ e => .inr (.inr e))).trans hkk (fun _ _ e => .inl e)
  refine ⟨hkF, .inl ⟨p.take n, p.drop n, rest, cur2, ?_, ?_, ?_, ?_, ?_, hc2, ?_⟩⟩
  · rw [← List.append_assoc, List.take_append_drop]; exact ht
  · intro e; rw [e] at hlt; simp only [List.length_nil] at hlt; omega
  · omega
  · rw [hlt]
  · exact hkk.heap hb2 n1
  · refine ⟨_, hdw3, ho, ⟨ad2, cp2, by rw [hld], by rw [hld]; exact hcp, ?_⟩, ?_⟩
    · intro hne
      have h0 : m - n ≠ 0 := fun e => hne (List.length_eq_zero_iff.1 (hld.trans e))
      refine ⟨q + n, had h0, by rw [hld]; omega, fun i x hx => ?_⟩
      rw [List.getElem?_drop] at hx
      rw [Nat.add_assoc]
      exact hpo _ _ hx
    · rcases hend with ⟨D, last, B, hdk⟩ | h
      · exact .inl ⟨D, last, B, (hdk.tailb hdw2 hk2 n2).tail hdw3 hkk nb rfl⟩
      · exact .inr h
set_option maxRecDepth 100000 in
set_option maxHeartbeats 1600000 in
theorem read_any (bd br bb b off cap : Nat) (src : List Nat) (ea : Addr) (p rest : List Nat) (cur : Array Value) (w : World) (henv : Env bd br b off cap src ea w) (h : RS bd br (.slice (some ⟨b, off, none⟩) src.length cap) src ea p rest w)
    (hbb : w.heap[bb]? = some (.cells cur 5 (0, 0))) (hcur : cur.size = 512) (n1 : bb ≠ bd) (n2 : bb ≠ br) :
    Calls Tryd.prog 37 #[.pointer (some ⟨bd, 0, none⟩), .slice (some ⟨bb, 0, none⟩) 512 512] w fun e w' => ReadPost bd br bb (.slice (some ⟨b, off, none⟩) src.length cap) src ea (p ++ rest) w e w' := by
  have HRS := Lib.hid h; clear h
  have Henv := Lib.hid henv; clear henv
  have Hcur := Lib.hid hcur; clear hcur
  have Hbb := Lib.hid hbb; clear hbb
  obtain ⟨t, ht⟩ : ∃ t, p ++ rest = t := ⟨_, rfl⟩
  rw [ht]
  have Ht := Lib.hid ht; clear ht
  go_enter Tryd.func37, Tryd.ntmps37
  go_wp2_with fail
  go_loopg [] 1 (fun gk wr => RLoop bd br bb (.slice (some ⟨b, off, none⟩) src.length cap) src ea t cur w gk wr)
  case atStart => exact ⟨p, rest, Ht.out.symm, HRS.out, Kp.refl _ _, Hbb.out, .inl rfl⟩
  case round =>
    obtain ⟨p, rest, ht, hrs, hkp, hbr, hgk⟩ := hrel
    obtain ⟨s, hdw, ho, ⟨ad, cp, hrd, hpc, hp⟩, hend⟩ := hrs
    have g6 := hdw.frz 6
    have g16 := hdw.frz 16397
    by_cases hp0 : p = []
    · subst hp0
      have d16 : wr.cell? ⟨bd, 16397, none⟩ = some (.slice ad 0 cp) := hdw.cell fun C hC => hrd ▸ hC.crd
      clear hp hpc hrd
      rcases hend with ⟨D, last, B, hdk⟩ | ⟨herr, hr⟩
      · have d6 : wr.cell? ⟨bd, 6, none⟩ = some .nilIface := hdw.cell fun C hC => hdk.err ▸ hC.c6
        have hg1 : gk = 1 := by
          rcases hgk with h | ⟨_, h | ⟨s2, hd2, he2⟩⟩
          · exact h
          · exact absurd rfl h
          · have := d6.symm.trans (hd2.cell (i := 6) (v := .iface 68 (.pointer (some ea))) fun C hC => he2 ▸ hC.c6)
            cases this
        subst hg1
        have hd := decode_any bd br b off cap src ea s D last B rest wr (Henv.out.kp hkp (fun e => by rcases e with e | e; exact Henv.out.n3 e; exact Henv.out.n2 e) (fun e => by rcases e with e | e; exact absurd e (Nat.ne_of_lt Henv.out.p1); exact absurd e (Nat.ne_of_lt Henv.out.p2))) hdk ho
        have Hkp := Lib.hid hkp; clear hkp
        have Hbr := Lib.hid hbr; clear hbr
        have Htt := Lib.hid ht; clear ht
        clear hdw hdk hgk ho
        go_wp2_with fail
        refine hd.mono ?_
        rintro e w2 ⟨rfl, hpost⟩
        go_wp2_with fail
        go_roundg 0
        case measure => omega
        case rel =>
          obtain ⟨s2, acc, rest', hr, hdw2, ho2, hrd2, hal, hout, hk2, hend2⟩ := hpost
          refine ⟨acc, rest', by rw [Htt.out, hr]; rfl, ⟨s2, hdw2, ho2, ⟨_, 8192, hrd2, hal, fun _ => ⟨0, rfl, by omega, fun i x hx => by rw [Nat.zero_add]; exact hout i x hx⟩⟩, ?_⟩, Hkp.out.trans hk2 (fun _ _ e => e), hk2.heap Hbr.out (fun e => e.elim n1 n2), .inr ⟨rfl, ?_⟩⟩
          · exact hend2.elim (fun h => .inl h.2) .inr
          · exact hend2.elim (fun h => .inl h.1) (fun h => .inr ⟨s2, hdw2, h.1⟩)
      · have d6 : wr.cell? ⟨bd, 6, none⟩ = some (.iface 68 (.pointer (some ea))) := hdw.cell fun C hC => herr ▸ hC.c6
        subst hr
        have Hkp := Lib.hid hkp; clear hkp
        clear hdw hgk hbr herr ho
        go_upto_region 6 with fail
        go_quiet (fail)
        go_wp2_with fail
        refine bodyPost_ret (results_tmp2 rfl _ _ _) rfl ?_
        exact ⟨(Hkp.out.drewN _).mono fun k _ hk => hk.elim .inl fun h => .inr (.inl h), .inr ⟨ht, rfl⟩⟩
    · obtain ⟨q, rfl, hq, hpo⟩ := hp hp0
      obtain ⟨m, hm⟩ : ∃ m, p.length = m := ⟨_, rfl⟩
      rw [hm] at hrd hpc hq
      have d16 : wr.cell? ⟨bd, 16397, none⟩ = some (.slice (some ⟨bd, 8204 + q, none⟩) m cp) := hdw.cell fun C hC => hrd ▸ hC.crd
      have hm0 : 0 < m := by rw [← hm]; exact List.length_pos_iff.2 hp0
      obtain ⟨n, hn⟩ : ∃ n, n = Nat.min m 512 := ⟨_, rfl⟩
      have hnm : n ≤ m := by rw [hn]; exact Nat.min_le_left _ _
      have hn512 : n ≤ 512 := by rw [hn]; exact Nat.min_le_right _ _
      have hn0 : 0 < n := by rw [hn]; exact Nat.lt_min.2 ⟨hm0, by decide⟩
      have hsrc : Hid (∀ i x, p[i]? = some x → wr.cell? ⟨bd, 8204 + q + i, none⟩ = some (.int .u8 (x : Nat))) := fun i x hx => hdw.cell fun C hC => by
        have hil := (List.getElem?_eq_some_iff.1 hx).1
        rw [show 8204 + q + i = 8204 + (q + i) by omega, hC.cout (q + i) (by omega), hpo i x hx]
      have Hkp := Lib.hid hkp; clear hkp
      have Hbr := Lib.hid hbr; clear hbr
      have Htt := Lib.hid ht; clear ht
      have Hdw := Lib.hid hdw; clear hdw
      have Hend := Lib.hid hend; clear hend
      have Hpo := Lib.hid hpo; clear hpo
      have Hrd := Lib.hid hrd; clear hrd
      have Ho := Lib.hid ho; clear ho
      have Hm := Lib.hid hm; clear hm
      have Hn := Lib.hid hn; clear hn
      clear hgk hp hp0
      go_upto_region 3 with (refine wpList_copy_buf rfl _ _ rfl bb bd (8204 + q) cur Hbr.out 512 512 m cp n rfl rfl Hcur.out p Hm.out Hn.out hsrc.out ?_)
      intro w2 cur2 hb2 hsz2 hc2 hk2
      have hdw2 := Hdw.out.kp hk2 (fun e => n1 e.symm)
      have e16 : w2.cell? ⟨bd, 16397, none⟩ = some (.slice (some ⟨bd, 8204 + q, none⟩) m cp) := hdw2.cell fun C hC => Hrd.out ▸ hC.crd
      have e16f := hdw2.frz 16397
      have Hb2 := Lib.hid hb2; clear hb2
      have Hc2 := Lib.hid hc2; clear hc2
      have Hk2 := Lib.hid hk2; clear hk2
      have Hdw2 := Lib.hid hdw2; clear hdw2
      clear d16 g6 g16 hsz2
      by_cases hnc : n = cp
      · subst hnc
        have hmn : m = n := by omega
        subst hmn
        go_wp2_with fail
        refine bodyPost_ret (results_tmp2 rfl _ _ _) rfl ?_
        have hfin := read_fin (cp2 := 0) (ad2 := some ⟨bd, 8204 + q, none⟩) Htt.out Hm.out Hn.out hn0 Hkp.out Hk2.out Hdw2.out Ho.out hq Hpo.out Hend.out Hb2.out Hc2.out n1 n2 Henv.out.n1 (by omega) (fun h => absurd (Nat.sub_self _) h)
        rw [Nat.sub_self] at hfin
        exact hfin
      · have hncp : n < cp := by omega
        go_wp2_with fail
        refine bodyPost_ret (results_tmp2 rfl _ _ _) rfl ?_
        exact read_fin Htt.out Hm.out Hn.out hn0 Hkp.out Hk2.out Hdw2.out Ho.out hq Hpo.out Hend.out Hb2.out Hc2.out n1 n2 Henv.out.n1 (by omega) (fun _ => by rw [← Nat.add_assoc])
end Go.Proofs.YtgghadfelagghaaDoor

/-
  'Lzw': the decoder read to its end.
  Conditions: the slice is not nil, its bytes hold codes that tell the data; io.EOF is a pointer.
-/
import Derived.Test.YtgghadfelagghaaDoorNewReader
import Derived.LaidEqlPtr
namespace Go.Proofs.YtgghadfelagghaaDoor
open Go Go.RowKit
theorem method_read (a : Addr) (w : World) : (method 201 48 (.pointer (some a)) "Read").run Tryd.prog w = .ok (37, .pointer (some a)) w := by kernel_rfl
theorem eof_same (ea : Addr) (w : World) : (binOp .eql 37 (.iface 68 (.pointer (some ea))) (.iface 68 (.pointer (some ea)))).run Tryd.prog w = .ok (.bool true) w := by
  have h1 : (Tryd.prog.info? 68).map (·.comparable) = some true := by kernel_rfl
  obtain ⟨i, hi, hc⟩ := Option.map_eq_some_iff.1 h1
  have h2 : ((Tryd.prog.underlying 68).bind fun d => match d with | .pointer te => (Tryd.prog.info? te).map fun _ => () | _ => none) = some () := by kernel_rfl
  cases hu : Tryd.prog.underlying 68 with
  | none => rw [hu] at h2; cases h2
  | some d =>
    rw [hu] at h2
    cases d with
    | pointer te =>
      obtain ⟨j, hj, _⟩ := Option.map_eq_some_iff.1 h2
      exact run_eql_iface_ptr_same w ea Tryd.underlying37 hu hi hc hj
    | _ => cases h2
/-- the decoder at its start: what is to come are the data -/
theorem rs_start {bd br b off cap : Nat} {src data : List Nat} {ea : Addr} {w : World} (hd : DW bd br (start0 .nilIface) w) (hr : RdAt br (.slice (some ⟨b, off, none⟩) src.length cap) 0 w) (hs : Str [] none (bitsOf src) data) :
    RS bd br (.slice (some ⟨b, off, none⟩) src.length cap) src ea [] data w :=
  ⟨_, hd, rfl, ⟨none, 0, rfl, Nat.le_refl _, fun h => absurd rfl h⟩, .inl ⟨[], none, bitsOf src, hd, ⟨[], 0, rfl, rfl, Nat.zero_le _, rfl, hr⟩, hs, DInv.start _ _, rfl, rfl, rfl, rfl, rfl⟩⟩
theorem RS.kp {bd br : Nat} {sv : Value} {src : List Nat} {ea : Addr} {p rest : List Nat} {w w' : World} (h : RS bd br sv src ea p rest w) {S : Nat → Prop} (hk : Kp S w w') (h1 : ¬ S bd) (h2 : ¬ S br) : RS bd br sv src ea p rest w' := by
  obtain ⟨s, hd, ho, hp, hend⟩ := h
  refine ⟨s, hd.kp hk h1, ho, hp, ?_⟩
  rcases hend with ⟨D, last, B, hdk⟩ | h
  · exact .inl ⟨D, last, B, hd.kp hk h1, hdk.rp.kp hk h2, hdk.str, hdk.inv, hdk.wd, hdk.hi, hdk.lst, hdk.ov, hdk.err⟩
  · exact .inr h
theorem owns_base {w : World} {base base' n : Nat} {e : TypeId} {v : Value} {xs : List Value} (h : w.ownsRow base e 1 v n xs) (hb : base' ≤ base) : w.ownsRow base' e 1 v n xs := by
  refine ⟨h.1, ?_⟩
  rcases h.2 with h0 | ⟨g, cap, cur, hv, hg, r⟩
  · exact .inl h0
  · exact .inr ⟨g, cap, cur, hv, Nat.le_trans hb hg, r⟩
/-- between the rounds of Lzw -/
def LRel (H1 bd br b cap : Nat) (src : List Nat) (ea : Addr) (data : List Nat) (w : World) (gk : Nat) (s12 s13 : Value) (wr : World) : Prop :=
  ∃ (acc p rest : List Nat) (k : Nat), data = acc ++ (p ++ rest) ∧ gk = (p ++ rest).length ∧ s13 = .int .i64 (k : Nat) ∧ k ≤ acc.length ∧ wr.ownsRow H1 5 1 s12 acc.length (u8v acc) ∧ RS bd br (.slice (some ⟨b, 0, none⟩) src.length cap) src ea p rest wr ∧ Env bd br b 0 cap src ea wr ∧
    bd < H1 ∧ br < bd ∧ b < br ∧ w.heap.size ≤ b ∧ H1 ≤ wr.heap.size ∧ Kp (fun _ => False) w wr
set_option maxRecDepth 100000 in
set_option maxHeartbeats 1600000 in
theorem lzw_any (g cap m : Nat) (src data : List Nat) (ea : Addr) (w : World) (hm : src.length = m) (hm0 : 0 < m) (hm1 : m ≤ 100000) (hsb : ∀ x ∈ src, x < 256) (hcell : ∀ j u, (u8v src)[j]? = some u → w.cell? ((⟨g, 0, none⟩ : Addr).add j) = some u)
    (hstr : Str [] none (bitsOf src) data) (hdl : data.length ≤ 5000) (heof : w.cell? ⟨0, 0, none⟩ = some (.iface 68 (.pointer (some ea)))) (h0 : 0 < w.heap.size) :
    Calls Tryd.prog 4 #[.slice (some ⟨g, 0, none⟩) m cap, .int .i64 8, .bool true, .slice none 0 0] w fun e w' => ∃ dv, e = .returned (.tuple #[dv, .int .i64 0]) ∧ w'.ownsRow w.heap.size 5 1 dv data.length (u8v data) ∧ Kp (fun _ => False) w w' := by
  have hclone := clone_any g 0 m cap (u8v src) w (by rw [u8v_length]; exact hm) hm0 (by omega) hcell (u8v_one _)
  have hmr := method_read
  have Hm := Lib.hid hm; clear hm
  have Hsb := Lib.hid hsb; clear hsb
  have Hstr := Lib.hid hstr; clear hstr
  have Heof := Lib.hid heof; clear heof
  clear hcell
  obtain ⟨H, hH⟩ : ∃ H, w.heap.size = H := ⟨_, rfl⟩
  rw [hH] at h0 hclone ⊢
  have HH := Lib.hid hH; clear hH
  have h00 := Lib.hid h0; clear h0
  have hdl0 := Lib.hid hdl; clear hdl
  go_enter Tryd.func4, Tryd.ntmps4
  go_upto_region 4 with fail
  go_wp2_with fail
  refine hclone.mono ?_
  rintro e w1 ⟨b, c, rfl, hown1, hk1⟩
  have Hown1 := Lib.hid hown1; clear hown1
  have Hk1 := Lib.hid hk1; clear hk1
  clear hclone
  go_wp2_with fail
  refine (newBytes_any (some ⟨b, 0, none⟩) m c w1).mono ?_
  rintro e w2 ⟨rfl, hw2⟩
  obtain ⟨br, hbr⟩ : ∃ br, w1.heap.size = br := ⟨_, rfl⟩
  rw [hbr]
  have hblk2 : w2.heap[br]? = some (.cells #[.slice (some ⟨b, 0, none⟩) m c, .int .i64 0, .int .i64 (-1)] 65 (0, 0)) := by rw [hw2, ← hbr]; exact heap_alloc_new w1 _
  have hk2 : Kp (fun _ => False) w1 w2 := by rw [hw2]; exact (Kp.refl _ w1).alloc _
  have hs2 : w2.heap.size = br + 1 := by rw [hw2, ← hbr]; simp
  have Hblk2 := Lib.hid hblk2; clear hblk2
  have Hk2 := Lib.hid hk2; clear hk2
  have Hs2 := Lib.hid hs2; clear hs2
  have Hbr := Lib.hid hbr; clear hbr
  clear hw2
  go_wp2_with fail
  refine (newReader_any br w2).mono ?_
  rintro e w3 ⟨rfl, hdw3, hk3⟩
  rw [Hs2.out] at hdw3 ⊢
  have Hdw3 := Lib.hid hdw3; clear hdw3
  have Hk3 := Lib.hid hk3; clear hk3
  go_upto_region 6 with fail
  have hEnv : Env (br + 1) br b 0 c src ea w3 := by
    obtain ⟨g1, c1, e1, hbH, hb1⟩ := owns_slice Hown1.out hm0
    cases e1
    have hb := Hbr.out
    have hkk : Kp (fun _ => False) w1 w3 := Hk2.out.trans Hk3.out (fun _ _ e => e)
    have hk0 : Kp (fun _ => False) w w3 := Hk1.out.trans hkk (fun _ _ e => e)
    refine ⟨fun i x hx => ?_, by rw [Hm.out]; exact hm1, Hsb.out, by omega, by omega, by omega, hk0.cell Heof.out id, by omega, by omega⟩
    have hi : i < m := by have := (List.getElem?_eq_some_iff.1 hx).1; rw [Hm.out] at this; exact this
    refine hkk.cell (p := ⟨b, 0 + i, none⟩) ?_ id
    rw [Nat.zero_add, Hown1.out.cellAt i (by omega), u8v_get, hx]
    rfl
  have hRS : RS (br + 1) br (.slice (some ⟨b, 0, none⟩) src.length c) src ea [] data w3 := by
    refine rs_start Hdw3.out ⟨-1, ?_⟩ Hstr.out
    rw [Hm.out]
    exact Hk3.out.heap Hblk2.out id
  have hgb : H ≤ b ∧ b < br := by
    obtain ⟨g1, c1, e1, hbH, hb1⟩ := owns_slice Hown1.out hm0
    cases e1
    exact ⟨hbH, by rw [← Hbr.out]; exact hb1⟩
  have hbd : br + 1 < w3.heap.size := by obtain ⟨C, hb, _⟩ := Hdw3.out; exact lt_blk hb
  have hkf : Kp (fun _ => False) w w3 := (Hk1.out.trans Hk2.out (fun _ _ e => e)).trans Hk3.out (fun _ _ e => e)
  obtain ⟨H1, hH1⟩ : ∃ H1, w3.heap.size = H1 := ⟨_, rfl⟩
  have hL : LRel H1 (br + 1) br b c src ea data w data.length (.slice none 0 0) (.int .i64 0) w3 := by
    refine ⟨[], [], data, 0, rfl, rfl, rfl, Nat.le_refl _, ⟨rfl, .inl ⟨rfl, rfl⟩⟩, hRS, hEnv, ?_⟩
    rw [hH1] at hbd
    exact ⟨hbd, by omega, by omega, by rw [HH.out]; exact hgb.1, by omega, hkf⟩
  have HL := Lib.hid hL; clear hL
  clear hEnv hRS hgb hbd hkf hH1
  obtain ⟨bd, hbd⟩ : ∃ bd, br + 1 = bd := ⟨_, rfl⟩
  rw [hbd] at HL ⊢
  clear hbd Hdw3 Hk3 Hblk2 Hk2 Hs2 Hbr Hown1 Hk1
  go_wp2_with fail
  go_loopg [12, 13] data.length (fun gk s12 s13 wr => LRel H1 bd br b c src ea data w gk s12 s13 wr)
  case atStart => exact HL.out
  case round =>
    obtain ⟨acc, p, rest, k, hdata, hgk, rfl, hk, hown, hrs, henv, hb1, hb2, hb3, hb4, hb5, hkp⟩ := hrel
    obtain ⟨pv, cv, rfl⟩ := owns_form hown
    obtain ⟨n, hn⟩ : ∃ n, acc.length = n := ⟨_, rfl⟩
    rw [hn] at hown hk ⊢
    have hnd : n ≤ 5000 := by
      have := congrArg List.length hdata
      have h5 := hdl0.out
      rw [List.length_append] at this
      omega
    have hk2 : k < 10000 := by omega
    have hki : (k : Int) < 10000 := by omega
    have hni : (n : Int) ≤ 100000 := by omega
    have hkd : decide ((k : Int) < 10000) = true := by simpa using hki
    obtain ⟨i5, hi5, hz0, hz1, hz2⟩ := info_parts info5
    have Hdata := Lib.hid hdata; clear hdata
    have Hgk := Lib.hid hgk; clear hgk
    have Hown := Lib.hid hown; clear hown
    have Hrs := Lib.hid hrs; clear hrs
    have Henv := Lib.hid henv; clear henv
    have Hkp := Lib.hid hkp; clear hkp
    have Hn := Lib.hid hn; clear hn
    go_upto_region 12 with fail
    go_wp2_with (refine wpList_make_full _ rfl _ _ 22 rfl H1 5 i5 (.int .u8 0) 1 Tryd.underlying22 hi5 hz0 hz1 .i64 .i64 512 512 512 rfl rfl rfl rfl ?m1 ?m2 hb5 ?_)
    case m1 => rw [hz2]; decide
    case m2 => decide
    intro w4 hown4 hg4
    obtain ⟨bb, hbb⟩ : ∃ bb, wr.heap.size = bb := ⟨_, rfl⟩
    rw [hbb] at hown4 hb5 ⊢
    have hk4 : Kp (fun _ => False) wr w4 := (Kp.refl _ wr).grown hg4 (fun k hk => by cases hk)
    obtain ⟨cur, hrow, hsz⟩ : ∃ cur, w4.heap[bb]? = some (.cells cur 5 (0, 0)) ∧ cur.size = 512 := by
      rcases hown4.2 with ⟨e, _⟩ | ⟨g5, cap5, cur, e, _, hg5, _, _, hs5, _⟩
      · cases e
      · cases e
        exact ⟨cur, hg5, by omega⟩
    have hrd := read_any bd br bb b 0 c src ea p rest cur w4 (Henv.out.kp hk4 id id) (Hrs.out.kp hk4 id id) hrow hsz (by omega) (by omega)
    have Hrow := Lib.hid hrow; clear hrow
    have Hk4 := Lib.hid hk4; clear hk4
    have Hbb := Lib.hid hbb; clear hbb
    clear hown4 hg4 hsz
    go_wp2_with fail
    refine hrd.mono ?_
    rintro e w5 ⟨hk5, hpost⟩
    have hbbH : H1 ≤ bb := hb5
    have hown5 : w5.ownsRow H1 5 1 (.slice pv n cv) n (u8v acc) := hk5.row (Hk4.out.row Hown.out fun _ _ e => e) (fun g5 hg5 e => by
      have h1 := Hown.out.lt g5 hg5
      have h2 := Hbb.out
      omega)
    have henv5 : Env bd br b 0 c src ea w5 := (Henv.out.kp Hk4.out id id).kp hk5 (by have := Henv.out.n2; have := Henv.out.n3; omega) (by have := Henv.out.p1; have := Henv.out.p2; omega)
    have hsz5 : bb ≤ w5.heap.size := by
      have := lt_blk Hrow.out
      have := hk5.size
      omega
    have hkw5 : Kp (fun k => k = bd ∨ k = br ∨ k = bb) wr w5 := (Hk4.out.mono (S' := fun k => k = bd ∨ k = br ∨ k = bb) (fun _ _ e => e.elim)).trans hk5 (fun _ _ e => e)
    have Hkw5 := Lib.hid hkw5; clear hkw5
    clear hk5
    rcases hpost with ⟨cc, p2, rest2, cur2, ht, hcne, hcl, rfl, hb5', hcc, hrs5⟩ | ⟨ht, rfl⟩
    · obtain ⟨l, hl⟩ : ∃ l, cc.length = l := ⟨_, rfl⟩
      rw [hl] at hcl ⊢
      have hl0 : 0 < l := by rw [← hl]; exact List.length_pos_iff.2 hcne
      have heof5 : w5.cell? ⟨0, 0, none⟩ = some (.iface 68 (.pointer (some ea))) := henv5.eof
      have heq := fun wx => run_eql_iface_nil_left (P := Tryd.prog) wx 68 (.pointer (some ea)) Tryd.underlying37
      have hnews : Hid (∀ j u, (u8v cc)[j]? = some u → w5.cell? ((⟨bb, 0, none⟩ : Addr).add j) = some u) := fun j u hu => by
        rw [u8v_get] at hu
        obtain ⟨x, hx, rfl⟩ := Option.map_eq_some_iff.1 hu
        rw [addr_add', Nat.zero_add, cell_blk hb5']
        exact hcc j x hx
      have Hrs5 := Lib.hid hrs5; clear hrs5
      have Henv5 := Lib.hid henv5; clear henv5
      have Hl := Lib.hid hl; clear hl
      have Ht := Lib.hid ht; clear ht
      have Hsz5 := Lib.hid hsz5; clear hsz5
      clear hb5' hcc hcne hrd
      go_wp2_with (at_builtin; refine wpList_append_fresh _ rfl _ _ 22 rfl H1 5 i5 (.int .u8 0) 1 Tryd.underlying22 hi5 hz0 hz1 hz2 rfl _ _ _ rfl hown5 ⟨bb, 0, none⟩ l 512 (u8v cc) rfl ?c1 hnews.out ?c2 ?c3 ?c4 ?c5 ?_)
      case c1 => rw [u8v_length]; exact Hl.out
      case c2 => exact u8v_one cc
      case c3 => unfold maxLen; omega
      case c4 => omega
      case c5 => have := Hsz5.out; omega
      intro v6 w6 hown6 hk6 _
      have heof6 : w6.cell? ⟨0, 0, none⟩ = some (.iface 68 (.pointer (some ea))) := hk6.cell heof5 (fun e => by have := (hown5.lt 0 e).1; omega)
      have hrs6 : RS bd br (.slice (some ⟨b, 0, none⟩) src.length c) src ea p2 rest2 w6 := Hrs5.out.kp hk6 (fun e => by have := (hown5.lt _ e).1; omega) (fun e => by have := (hown5.lt _ e).1; omega)
      have henv6 : Env bd br b 0 c src ea w6 := Henv5.out.kp hk6 (fun e => by have := (hown5.lt _ e).1; omega) (fun e => by have := (hown5.lt 0 e).1; omega)
      have hkw6 : Kp (fun k => k = bd ∨ k = br ∨ k = bb ∨ H1 ≤ k) wr w6 := (Hkw5.out.mono fun _ _ e => by omega).trans (hk6.mono (S' := fun k => H1 ≤ k) fun k _ e => (hown5.lt k e).1) (fun _ _ e => .inr (.inr (.inr e)))
      have Hrs6 := Lib.hid hrs6; clear hrs6
      have Henv6 := Lib.hid henv6; clear henv6
      have Hkw6 := Lib.hid hkw6; clear hkw6
      have Hown6 := Lib.hid hown6; clear hown6
      have hs6 : H1 ≤ w6.heap.size := by have := hk6.size; have := Hsz5.out; omega
      have Hs6 := Lib.hid hs6; clear hs6
      clear hk6 heof5 hown5
      go_wp2_with fail
      go_roundg (p2 ++ rest2).length
      case measure => have := Hgk.out; have := congrArg List.length Ht.out; have := Hl.out; simp only [List.length_append] at *; omega
      case rel =>
        have hn2 : (acc ++ cc).length = n + l := by rw [List.length_append, Hn.out, Hl.out]
        refine ⟨acc ++ cc, p2, rest2, k + 1, ?_, rfl, by go_num, by omega, ?_, Hrs6.out, Henv6.out, hb1, hb2, hb3, hb4, Hs6.out, Hkp.out.trans Hkw6.out (fun k hk e => by omega)⟩
        · rw [Hdata.out, Ht.out, List.append_assoc]
        · rw [hn2]
          have e2 : u8v (acc ++ cc) = u8v acc ++ u8v cc := by simp [u8v]
          rw [e2]
          exact Hown6.out
    · have heof5 : w5.cell? ⟨0, 0, none⟩ = some (.iface 68 (.pointer (some ea))) := henv5.eof
      have heq := eof_same ea
      obtain ⟨rfl, rfl⟩ := List.append_eq_nil_iff.1 ht
      have hacc : acc = data := by have := Hdata.out; simpa using this.symm
      have Henv5 := Lib.hid henv5; clear henv5
      have Hsz5 := Lib.hid hsz5; clear hsz5
      have Hacc := Lib.hid hacc; clear hacc
      clear hrd ht
      go_wp2_with (at_builtin; refine wpList_append_fresh _ rfl _ _ 22 rfl H1 5 i5 (.int .u8 0) 1 Tryd.underlying22 hi5 hz0 hz1 hz2 rfl _ _ _ rfl hown5 ⟨bb, 0, none⟩ 0 512 [] rfl rfl ?c1 ?c2 ?c3 ?c4 ?c5 ?_)
      case c1 => intro j u hu; simp at hu
      case c2 => intro u hu; cases hu
      case c3 => unfold maxLen; omega
      case c4 => omega
      case c5 => have := Hsz5.out; omega
      intro v6 w6 hown6 hk6 _
      have heof6 : w6.cell? ⟨0, 0, none⟩ = some (.iface 68 (.pointer (some ea))) := hk6.cell heof5 (fun e => by have := (hown5.lt 0 e).1; omega)
      have hkw6 : Kp (fun k => k = bd ∨ k = br ∨ k = bb ∨ H1 ≤ k) wr w6 := (Hkw5.out.mono fun _ _ e => by omega).trans (hk6.mono (S' := fun k => H1 ≤ k) fun k _ e => (hown5.lt k e).1) (fun _ _ e => .inr (.inr (.inr e)))
      have Hkw6 := Lib.hid hkw6; clear hkw6
      have Hown6 := Lib.hid hown6; clear hown6
      clear hk6 heof5 hown5
      go_wp2_with fail
      refine bodyPost_ret (results_tmp2 rfl _ _ _) rfl ?_
      refine ⟨v6, rfl, ?_, Hkp.out.trans Hkw6.out (fun k hk e => by omega)⟩
      have h6 : w6.ownsRow H1 5 1 v6 n (u8v acc) := by simpa using Hown6.out
      rw [← Hacc.out, Hn.out]
      exact owns_base h6 (by have := HH.out; omega)
end Go.Proofs.YtgghadfelagghaaDoor

/-
  The rounds of the outer loop of decode: the relation at their heads, how the end and the clearing code are met.
  Conditions: those of Env.
-/
import Derived.Test.YtgghadfelagghaaDoorFrame
import Derived.Deep.DeepCutAuto
import Derived.Deep.CutBlock
namespace Go.Proofs.YtgghadfelagghaaDoor
open Go Go.RowKit
def hiOf (D : List (List Nat)) : Option (Nat × List Nat) → Nat
  | none => 257
  | some _ => 258 + D.length
def lastOf : Option (Nat × List Nat) → Nat
  | none => 65535
  | some (c, _) => c
/-- the decoder at the head of a round -/
structure DK (bd br : Nat) (sv : Value) (src : List Nat) (s : DS) (D : List (List Nat)) (last : Option (Nat × List Nat)) (B : List Bool) (rest : List Nat) (w : World) : Prop where
  dw : DW bd br s w
  rp : RP br sv src 7 s.nb s.bv B w
  str : Str D last B rest
  inv : DInv s.suf s.pre D last
  wd : s.wd = lw (258 + D.length)
  hi : s.hi = hiOf D last
  lst : s.last = lastOf last
  ov : s.ov = 2 ^ s.wd
  err : s.err = .nilIface
/-- what has been put out since 'decode' began -/
structure DO (s : DS) (acc : List Nat) : Prop where
  o : s.o = acc.length
  out : ∀ i x, acc[i]? = some x → s.out i = x
/-- how the loop of 'decode' ends -/
def DEnd (bd br : Nat) (sv : Value) (src : List Nat) (ea : Addr) (rest0 : List Nat) (w0 : World) (wx : World) : Prop :=
  ∃ s acc rest, rest0 = acc ++ rest ∧ DW bd br s wx ∧ DO s acc ∧ acc.length ≤ 8192 ∧ Kp (fun k => k = bd ∨ k = br) w0 wx ∧
    ((acc ≠ [] ∧ ∃ D last B, DK bd br sv src s D last B rest wx) ∨ (s.err = .iface 68 (.pointer (some ea)) ∧ rest = []))
def DLoop (bd br : Nat) (sv : Value) (src : List Nat) (rest0 : List Nat) (w0 : World) (gk : Nat) (wr : World) : Prop :=
  ∃ s D last B rest acc, gk = B.length ∧ rest0 = acc ++ rest ∧ DK bd br sv src s D last B rest wr ∧ DO s acc ∧ acc.length < 4096 ∧ Kp (fun k => k = bd ∨ k = br) w0 wr
def RoundEnd (bd br : Nat) (sv : Value) (src : List Nat) (rest0 : List Nat) (w0 : World) (gk : Nat) (a : Act) (w : World) : Prop :=
  Fr0 (.pointer (some ⟨bd, 0, none⟩)) a ∧ ∃ k, k < gk ∧ DLoop bd br sv src rest0 w0 k w
def RoundExit (bd br : Nat) (sv : Value) (src : List Nat) (ea : Addr) (rest0 : List Nat) (w0 : World) (a : Act) (w : World) : Prop :=
  Fr0 (.pointer (some ⟨bd, 0, none⟩)) a ∧ DEnd bd br sv src ea rest0 w0 w
/-- behind the switch, where a code has told the word wd -/
structure Mid (bd br c : Nat) (s : DS) (D' : List (List Nat)) (wd acc' : List Nat) (w2 : World) (a : Act) (w : World) : Prop where
  fr : Fr0 (.pointer (some ⟨bd, 0, none⟩)) a
  s2 : a.tmps[2]? = some (.int .u16 (c : Nat))
  ex : ∃ suf pre out o, DW bd br { s with suf := suf, pre := pre, out := out, o := o } w ∧ DInv suf pre D' (some (c, wd)) ∧ DO { s with suf := suf, pre := pre, out := out, o := o } acc'
  kp : Kp (fun k => k = bd) w2 w
/-- what does not change in 'decode' -/
structure Env (bd br b off cap : Nat) (src : List Nat) (ea : Addr) (w0 : World) : Prop where
  cell : ∀ i x, src[i]? = some x → w0.cell? ⟨b, off + i, none⟩ = some (.int .u8 (x : Nat))
  len : src.length ≤ 100000
  byte : ∀ x ∈ src, x < 256
  n1 : br ≠ bd
  n2 : b ≠ br
  n3 : b ≠ bd
  eof : w0.cell? ⟨0, 0, none⟩ = some (.iface 68 (.pointer (some ea)))
  p1 : 0 < bd
  p2 : 0 < br
/-- the next code is read -/
def Next (bd br : Nat) (sv : Value) (src : List Nat) (s : DS) (B : List Bool) (w0 w' : World) : Prop :=
  ∃ nb bv, DW bd br { s with bv := bv, nb := nb } w' ∧ RP br sv src 7 nb bv B w' ∧ Kp (fun k => k = bd ∨ k = br) w0 w'
theorem DK.next {bd br b off cap : Nat} {src : List Nat} {ea : Addr} {w0 wr : World} (henv : Env bd br b off cap src ea w0) {s : DS} {D : List (List Nat)} {last : Option (Nat × List Nat)} {B : List Bool} {rest : List Nat} {c : Nat}
    (hk : DK bd br (.slice (some ⟨b, off, none⟩) src.length cap) src s D last (msb c (lw (258 + D.length)) ++ B) rest wr) (hkp : Kp (fun k => k = bd ∨ k = br) w0 wr) (hc : c < 2 ^ lw (258 + D.length)) :
    Calls Tryd.prog 13 #[.pointer (some ⟨bd, 0, none⟩)] wr fun e w' => e = .returned (.tuple #[.int .u16 (c : Nat), .nilIface]) ∧ Next bd br (.slice (some ⟨b, off, none⟩) src.length cap) src s B w0 w' := by
  obtain ⟨C, hb, hC⟩ := hk.dw
  refine (readMSB_any bd br b off cap s.nb s.bv (lw (258 + D.length)) c src C B wr hb hC.c0 hC.c1 hC.c2 (hk.wd ▸ hC.c3) hk.rp (by have := lw_ge (258 + D.length); omega) (lw_le _) hc
    (fun i x hx => hkp.cell (henv.cell i x hx) (fun e => by rcases e with e | e; exact henv.n3 e; exact henv.n2 e)) henv.len henv.byte henv.n1 henv.n2 henv.n3).mono ?_
  rintro e w' ⟨he, nb, bv, hblk, hrp, hk2⟩
  exact ⟨he, nb, bv, ⟨_, hblk, hC.bits bv nb⟩, hrp, hkp.trans hk2 (fun _ _ x => x)⟩
theorem RP.kp {br : Nat} {sv : Value} {src : List Nat} {most nb bv : Nat} {B : List Bool} {w w' : World} (h : RP br sv src most nb bv B w) {S : Nat → Prop} (hk : Kp S w w') (hn : ¬ S br) : RP br sv src most nb bv B w' := by
  obtain ⟨pend, i, h1, h2, h3, h4, pr, h5⟩ := h
  exact ⟨pend, i, h1, h2, h3, h4, pr, hk.heap h5 hn⟩
theorem Kp.st {bd : Nat} {a w : World} (h : Kp (fun k => k = bd) a w) (i : Nat) (v : Value) : Kp (fun k => k = bd) a (w.setCell ⟨bd, i, none⟩ v) := h.setCell ⟨bd, i, none⟩ v (.inl rfl)
theorem pow_lw (k : Nat) : 512 ≤ 2 ^ lw k := by
  have := Nat.pow_le_pow_right (show 0 < 2 by omega) (lw_ge k)
  omega
/-- block n of a piece of code -/
def blockIn (n : Nat) : Code → Option Code
  | .block k c => if k = n then some (.block k c) else blockIn n c
  | .seq x y => (blockIn n x).or (blockIn n y)
  | .loop c => blockIn n c
  | .cond _ x y => (blockIn n x).or (blockIn n y)
  | _ => none
/-- the switch of 'decode' -/
noncomputable def swcode : Code := (blockIn 2 dbody).getD .skip
set_option maxRecDepth 100000 in
set_option maxHeartbeats 1600000 in
theorem round_eof (bd br b off cap : Nat) (src : List Nat) (ea : Addr) (rest0 : List Nat) (w0 wr : World) (henv : Env bd br b off cap src ea w0) (s : DS) (D : List (List Nat)) (last : Option (Nat × List Nat)) (pad : List Bool) (acc : List Nat)
    (hk : DK bd br (.slice (some ⟨b, off, none⟩) src.length cap) src s D last (msb 257 (lw (258 + D.length)) ++ pad) [] wr) (hrest : rest0 = acc ++ []) (hout : DO s acc) (hacc : acc.length < 4096) (hkp : Kp (fun k => k = bd ∨ k = br) w0 wr)
    (v1 v2 v3 v4 v5 : Value) (f : Nat → Value) (K : Act → World → Prop) (Q : Exit → Act → World → Prop)
    (hQ : ∀ a w, RoundExit bd br (.slice (some ⟨b, off, none⟩) src.length cap) src ea rest0 w0 a w → Q (.exit 0) a w) :
    Code.wp Tryd.prog dbody (Exit.then K Q) (FA (.pointer (some ⟨bd, 0, none⟩)) v1 v2 v3 v4 v5 f) wr := by
  unfold FA
  conv => arg 2; whnf
  have c0 : wr.cell? ⟨bd, 4, none⟩ = some (.func (.func 13) #[] #[]) := hk.dw.cell fun C hc => hc.c4
  have Henv := Lib.hid henv; clear henv
  have Hrest := Lib.hid hrest; clear hrest
  have Hout := Lib.hid hout; clear hout
  have Hkp := Lib.hid hkp; clear hkp
  have Hacc := Lib.hid hacc; clear hacc
  have HK := Lib.hid hk; clear hk
  go_wp2_with fail
  refine (HK.out.next Henv.out Hkp.out (by have := pow_lw (258 + D.length); omega)).mono ?_
  rintro e w2 ⟨rfl, nb, bv, hdw, hrp, hk2⟩
  have d7 : w2.cell? ⟨bd, 7, none⟩ = some (.int .u16 256) := hdw.cell fun C hc => hc.c7
  have d8 : w2.cell? ⟨bd, 8, none⟩ = some (.int .u16 257) := hdw.cell fun C hc => hc.c8
  have d6 : w2.cell? ⟨bd, 6, none⟩ = some .nilIface := hdw.cell fun C hc => HK.out.err ▸ hc.c6
  have g6 := hdw.frz 6
  have e0 : w2.cell? ⟨0, 0, none⟩ = some (.iface 68 (.pointer (some ea))) := hk2.cell Henv.out.eof (fun e => by rcases e with e | e; exact absurd e (Nat.ne_of_lt Henv.out.p1); exact absurd e (Nat.ne_of_lt Henv.out.p2))
  have Hdw := Lib.hid hdw; clear hdw
  have Hk2 := Lib.hid hk2; clear hk2
  clear hrp
  go_wp2_with fail
  exact ⟨⟨rfl, rfl, rfl⟩, { s with bv := bv, nb := nb, err := .iface 68 (.pointer (some ea)) }, acc, [], Hrest.out, Hdw.out.set fun C hc => hc.setErr _, ⟨Hout.out.o, Hout.out.out⟩, by have := Hacc.out; omega, Hk2.out.setCell _ _ (.inl (.inl rfl)), .inr ⟨rfl, rfl⟩⟩

set_option maxRecDepth 100000 in
set_option maxHeartbeats 1600000 in
theorem round_clr (bd br b off cap : Nat) (src : List Nat) (ea : Addr) (rest0 : List Nat) (w0 wr : World) (henv : Env bd br b off cap src ea w0) (s : DS) (D : List (List Nat)) (last : Option (Nat × List Nat)) (B : List Bool) (rest acc : List Nat)
    (hk : DK bd br (.slice (some ⟨b, off, none⟩) src.length cap) src s D last (msb 256 (lw (258 + D.length)) ++ B) rest wr) (hstr : Str [] none B rest) (hrest : rest0 = acc ++ rest) (hout : DO s acc) (hacc : acc.length < 4096) (hkp : Kp (fun k => k = bd ∨ k = br) w0 wr)
    (v1 v2 v3 v4 v5 : Value) (f : Nat → Value) (gk : Nat) (hgk : gk = (msb 256 (lw (258 + D.length)) ++ B).length) (K : Act → World → Prop) (Q : Exit → Act → World → Prop)
    (hK : ∀ a w, RoundEnd bd br (.slice (some ⟨b, off, none⟩) src.length cap) src rest0 w0 gk a w → K a w) :
    Code.wp Tryd.prog dbody (Exit.then K Q) (FA (.pointer (some ⟨bd, 0, none⟩)) v1 v2 v3 v4 v5 f) wr := by
  unfold FA
  conv => arg 2; whnf
  have c0 : wr.cell? ⟨bd, 4, none⟩ = some (.func (.func 13) #[] #[]) := hk.dw.cell fun C hc => hc.c4
  have Henv := Lib.hid henv; clear henv
  have Hrest := Lib.hid hrest; clear hrest
  have Hout := Lib.hid hout; clear hout
  have Hkp := Lib.hid hkp; clear hkp
  have Hacc := Lib.hid hacc; clear hacc
  have HK := Lib.hid hk; clear hk
  have Hgk := Lib.hid hgk; clear hgk
  have Hstr := Lib.hid hstr; clear hstr
  go_wp2_with fail
  refine (HK.out.next Henv.out Hkp.out (by have := pow_lw (258 + D.length); omega)).mono ?_
  rintro e w2 ⟨rfl, nb, bv, hdw, hrp, hk2⟩
  have d3 : w2.cell? ⟨bd, 3, none⟩ = some (.int .u64 (s.wd : Nat)) := hdw.cell fun C hc => hc.c3
  have d5 : w2.cell? ⟨bd, 5, none⟩ = some (.int .i64 8) := hdw.cell fun C hc => hc.c5
  have d7 : w2.cell? ⟨bd, 7, none⟩ = some (.int .u16 256) := hdw.cell fun C hc => hc.c7
  have d8 : w2.cell? ⟨bd, 8, none⟩ = some (.int .u16 257) := hdw.cell fun C hc => hc.c8
  have d9 : w2.cell? ⟨bd, 9, none⟩ = some (.int .u16 (s.hi : Nat)) := hdw.cell fun C hc => hc.c9
  have d10 : w2.cell? ⟨bd, 10, none⟩ = some (.int .u16 (s.ov : Nat)) := hdw.cell fun C hc => hc.c10
  have d11 : w2.cell? ⟨bd, 11, none⟩ = some (.int .u16 (s.last : Nat)) := hdw.cell fun C hc => hc.c11
  have g3 := hdw.frz 3
  have g9 := hdw.frz 9
  have g10 := hdw.frz 10
  have g11 := hdw.frz 11
  have Hdw := Lib.hid hdw; clear hdw
  have Hk2 := Lib.hid hk2; clear hk2
  have Hrp := Lib.hid hrp; clear hrp
  go_wp2_with fail
  have hkk : Kp (fun k => k = bd) w2 ((((w2.setCell ⟨bd, 3, none⟩ (.int .u64 9)).setCell ⟨bd, 9, none⟩ (.int .u16 257)).setCell ⟨bd, 10, none⟩ (.int .u16 512)).setCell ⟨bd, 11, none⟩ (.int .u16 65535)) :=
    ((((Kp.refl _ w2).st 3 _).st 9 _).st 10 _).st 11 _
  exact ⟨⟨rfl, rfl, rfl⟩, B.length, by have h1 := lw_ge (258 + D.length); have h2 := Hgk.out; rw [List.length_append, msb_length] at h2; omega, { s with bv := bv, nb := nb, wd := 9, hi := 257, ov := 512, last := 65535 }, [], none, B, rest, acc, rfl, Hrest.out,
    ⟨(((Hdw.out.set fun C hc => hc.setWd 9).set fun C hc => hc.setHi 257).set fun C hc => hc.setOv 512).set fun C hc => hc.setLast 65535, Hrp.out.kp hkk Henv.out.n1, Hstr.out, DInv.start _ _, rfl, rfl, rfl, rfl, HK.out.err⟩,
    ⟨Hout.out.o, Hout.out.out⟩, Hacc.out, Hk2.out.trans hkk (fun _ _ e => .inl e)⟩
end Go.Proofs.YtgghadfelagghaaDoor

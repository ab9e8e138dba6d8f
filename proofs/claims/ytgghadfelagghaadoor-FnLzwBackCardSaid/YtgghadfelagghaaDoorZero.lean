/-
  The zero value of the decoder: its cells.
  Conditions: none.
-/
import Derived.Test.YtgghadfelagghaaDoorBox
namespace Go.Proofs.YtgghadfelagghaaDoor
open Go Go.RowKit
/-- v is 0 of the kind k -/
def isZ (k : IntKind) : Value → Bool
  | .int k' n => decide (k' = k) && decide (n = 0)
  | _ => false
theorem isZ_eq {k : IntKind} {v : Value} (h : isZ k v = true) : v = .int k 0 := by
  cases v <;> simp [isZ] at h
  rw [h.1, h.2]
/-- what follows n cells 0 of the kind k -/
def dropZ (k : IntKind) : Nat → List Value → Option (List Value)
  | 0, l => some l
  | n + 1, v :: l => match isZ k v with
    | true => dropZ k n l
    | false => none
  | _ + 1, [] => none
theorem dropZ_eq {k : IntKind} : ∀ {n : Nat} {l r : List Value}, dropZ k n l = some r → l = List.replicate n (.int k 0) ++ r
  | 0, l, r, h => by cases h; rfl
  | n + 1, [], r, h => by simp [dropZ] at h
  | n + 1, v :: l, r, h => by
    unfold dropZ at h
    cases hz : isZ k v with
    | true =>
      rw [hz] at h
      rw [isZ_eq hz, dropZ_eq h, List.replicate_succ]
      rfl
    | false => rw [hz] at h; cases h
noncomputable def zl : List Value := match (Tryd.prog.info? 58).bind (·.zero) with
  | some (.agg cs) => cs.toList
  | _ => []
theorem zl_head : zl.take 12 = [.nilIface, .int .u32 0, .int .u64 0, .int .u64 0, .nilFunc, .int .i64 0, .nilIface, .int .u16 0, .int .u16 0, .int .u16 0, .int .u16 0, .int .u16 0] := by kernel_rfl
theorem zl_tail : ((dropZ .u8 4096 (zl.drop 12)).bind fun r => (dropZ .u16 4096 r).bind (dropZ .u8 8192)) = some [.int .i64 0, .slice none 0 0] := by kernel_rfl
theorem zl_eq : zl = [.nilIface, .int .u32 0, .int .u64 0, .int .u64 0, .nilFunc, .int .i64 0, .nilIface, .int .u16 0, .int .u16 0, .int .u16 0, .int .u16 0, .int .u16 0] ++ (List.replicate 4096 (.int .u8 0) ++ (List.replicate 4096 (.int .u16 0) ++ (List.replicate 8192 (.int .u8 0) ++ [.int .i64 0, .slice none 0 0]))) := by
  have h := zl_tail
  cases h1 : dropZ .u8 4096 (zl.drop 12) with
  | none => rw [h1] at h; cases h
  | some r1 =>
    rw [h1] at h
    change (dropZ .u16 4096 r1).bind (dropZ .u8 8192) = _ at h
    cases h2 : dropZ .u16 4096 r1 with
    | none => rw [h2] at h; cases h
    | some r2 =>
      rw [h2] at h
      change dropZ .u8 8192 r2 = _ at h
      rw [← dropZ_eq h, ← dropZ_eq h2, ← dropZ_eq h1, ← zl_head, List.take_append_drop]
structure ZC (Z : Array Value) : Prop where
  size : Z.size = 16398
  c1 : Z[1]? = some (.int .u32 0)
  c2 : Z[2]? = some (.int .u64 0)
  c6 : Z[6]? = some .nilIface
  csuf : ∀ i, i < 4096 → Z[12 + i]? = some (.int .u8 0)
  cpre : ∀ i, i < 4096 → Z[4108 + i]? = some (.int .u16 0)
  cout : ∀ i, i < 8192 → Z[8204 + i]? = some (.int .u8 0)
  co : Z[16396]? = some (.int .i64 0)
  crd : Z[16397]? = some (.slice none 0 0)
theorem zero_get {A B C D E : List Value} (hA : A.length = 12) (hB : B.length = 4096) (hC : C.length = 4096) (hD : D.length = 8192) (i : Nat) :
    (A ++ (B ++ (C ++ (D ++ E))))[i]? = if i < 12 then A[i]? else if i < 4108 then B[i - 12]? else if i < 8204 then C[i - 4108]? else if i < 16396 then D[i - 8204]? else E[i - 16396]? := by
  by_cases h1 : i < 12
  · rw [if_pos h1, List.getElem?_append_left (by omega)]
  rw [if_neg h1, List.getElem?_append_right (by omega), hA]
  by_cases h2 : i < 4108
  · rw [if_pos h2, List.getElem?_append_left (by omega)]
  rw [if_neg h2, List.getElem?_append_right (by omega), hB]
  by_cases h3 : i < 8204
  · rw [if_pos h3, List.getElem?_append_left (by omega), show i - 12 - 4096 = i - 4108 by omega]
  rw [if_neg h3, List.getElem?_append_right (by omega), hC]
  by_cases h4 : i < 16396
  · rw [if_pos h4, List.getElem?_append_left (by omega), show i - 12 - 4096 - 4096 = i - 8204 by omega]
  rw [if_neg h4, List.getElem?_append_right (by omega), hD, show i - 12 - 4096 - 4096 - 8192 = i - 16396 by omega]
theorem zero58 : ∃ Z : Array Value, (∀ w, (zeroValue 58).run Tryd.prog w = .ok (.agg Z) w) ∧ ZC Z := by
  have e : ∃ Z : Array Value, (Tryd.prog.info? 58).bind (·.zero) = some (.agg Z) ∧ Z.toList = zl := by
    unfold zl
    cases h : (Tryd.prog.info? 58).bind (·.zero) with
    | none => exact absurd zl_head (by unfold zl; rw [h]; simp)
    | some z =>
      cases z with
      | agg Z => exact ⟨Z, rfl, rfl⟩
      | _ => exact absurd zl_head (by unfold zl; rw [h]; simp)
  obtain ⟨Z, hz, hl⟩ := e
  have g : ∀ i, Z[i]? = zl[i]? := fun i => by rw [← hl, Array.getElem?_toList]
  rw [zl_eq] at g hl
  have g2 := fun i => (g i).trans (zero_get (A := [.nilIface, .int .u32 0, .int .u64 0, .int .u64 0, .nilFunc, .int .i64 0, .nilIface, .int .u16 0, .int .u16 0, .int .u16 0, .int .u16 0, .int .u16 0]) rfl (List.length_replicate ..) (List.length_replicate ..) (List.length_replicate ..) i)
  refine ⟨Z, fun w => ?_, ⟨?_, ?_, ?_, ?_, ?_, ?_, ?_, ?_, ?_⟩⟩
  · cases hi : Tryd.prog.info? 58 with
    | none => rw [hi] at hz; cases hz
    | some i =>
      rw [hi] at hz
      have hz2 : i.zero = some (.agg Z) := hz
      simp [zeroValue, typeInfo, hi, hz2]
  · have := congrArg List.length hl
    simp only [List.length_append, List.length_replicate, List.length_cons, List.length_nil] at this
    rw [← Array.length_toList]; omega
  · rw [g2]; rfl
  · rw [g2]; rfl
  · rw [g2]; rfl
  · intro i hi
    rw [g2, if_neg (by omega), if_pos (by omega), List.getElem?_replicate, if_pos (by omega)]
  · intro i hi
    rw [g2, if_neg (by omega), if_neg (by omega), if_pos (by omega), List.getElem?_replicate, if_pos (by omega)]
  · intro i hi
    rw [g2, if_neg (by omega), if_neg (by omega), if_neg (by omega), if_pos (by omega), List.getElem?_replicate, if_pos (by omega)]
  · rw [g2]; rfl
  · rw [g2]; rfl
end Go.Proofs.YtgghadfelagghaaDoor

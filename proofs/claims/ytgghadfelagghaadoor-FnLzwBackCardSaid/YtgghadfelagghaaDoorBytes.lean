/-
  Slices of bytes as strings: what 'string(b)' gives, and when two such strings are equal.
  Conditions: the slice's cells hold the bytes; for equality: each byte is below 256.
-/
import Derived.Test.YtgghadfelagghaaDoorWord
import Derived.Laws.BytesArg
import Derived.Laws.StructEq
namespace Go.Proofs.YtgghadfelagghaaDoor
open Go Go.RowKit

def str (l : List Nat) : ByteArray := strOfNums (l.map Int.ofNat)
theorem conv_bytes (w : World) (b off cap : Nat) (l : List Nat) (h : ∀ i x, l[i]? = some x → w.cell? ⟨b, off + i, none⟩ = some (.int .u8 (x : Nat))) :
    (convert 22 9 (.slice (some ⟨b, off, none⟩) l.length cap)).run Tryd.prog w = Result.ok (Value.string (str l)) w := by
  refine run_convert_bytes_arg w 22 5 Tryd.underlying22 Tryd.underlying5 b off l.length cap (l.map Int.ofNat) (by simp) (fun i hi => ?_) 9 Tryd.underlying9
  rw [h i l[i] (List.getElem?_eq_getElem hi)]
  simp [List.getD_eq_getElem?_getD, List.getElem?_map, List.getElem?_eq_getElem hi]
theorem conv_nil (w : World) (l c : Nat) : (convert 22 9 (.slice none l c)).run Tryd.prog w = .ok (.string (str [])) w :=
  run_convert_bytes_nil w 22 5 Tryd.underlying22 Tryd.underlying5 l c 9 Tryd.underlying9
theorem str_toList (l : List Nat) : (str l).toList = l.map fun n => UInt8.ofNat n := by
  rw [ByteArray.toList_eq]
  show ((l.map Int.ofNat).map fun n => UInt8.ofNat n.toNat) = _
  simp [List.map_map, Function.comp]
theorem map_inj : ∀ (a b : List Nat), (∀ x ∈ a, x < 256) → (∀ x ∈ b, x < 256) → (a.map fun n => UInt8.ofNat n) = (b.map fun n => UInt8.ofNat n) → a = b
  | [], [], _, _, _ => rfl
  | [], y :: b, _, _, h => by simp at h
  | x :: a, [], _, _, h => by simp at h
  | x :: a, y :: b, ha, hb, h => by
    simp only [List.map_cons, List.cons.injEq] at h
    have hx := ha x (by simp)
    have hy := hb y (by simp)
    have e := congrArg UInt8.toNat h.1
    rw [UInt8.toNat_ofNat', UInt8.toNat_ofNat', Nat.mod_eq_of_lt hx, Nat.mod_eq_of_lt hy] at e
    rw [e, map_inj a b (fun z hz => ha z (by simp [hz])) (fun z hz => hb z (by simp [hz])) h.2]
theorem str_eq (a : List Nat) : ((str a).toList == (str a).toList) = true := by simp
theorem str_ne (a b : List Nat) (ha : ∀ x ∈ a, x < 256) (hb : ∀ x ∈ b, x < 256) (h : a ≠ b) : ((str a).toList == (str b).toList) = false := by
  rw [str_toList, str_toList]
  rw [beq_eq_false_iff_ne]
  exact fun e => h (map_inj a b ha hb e)
end Go.Proofs.YtgghadfelagghaaDoor

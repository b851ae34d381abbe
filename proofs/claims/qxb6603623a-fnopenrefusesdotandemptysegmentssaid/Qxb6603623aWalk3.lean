/-
  The walk of FnOpenRefusesDotAndEmptySegments.
-/
import Derived.Test.Qxb6603623aRef
namespace Go.Proofs.Qxb6603623a
open Go.RowKit

theorem cat_data (l : List UInt8) (s : ByteArray) : ((⟨l.toArray⟩ : ByteArray) ++ s).data.toList = l ++ s.data.toList := by simp
theorem cat_data' (s : ByteArray) (l : List UInt8) : (s ++ (⟨l.toArray⟩ : ByteArray)).data.toList = s.data.toList ++ l := by simp

/-- ZZOpen at a string that begins with given bytes. -/
theorem open8_pre (l : List UInt8) (s : ByteArray) (w : World) (h : l.length + s.size ≤ 1000000) (b : Bool) (hb : openL (l ++ s.data.toList) = b) : Calls Try.prog 8 #[.string ((⟨l.toArray⟩ : ByteArray) ++ s)] w fun e w' => e = .returned (.bool b) ∧ Below w.heap.size w w' := by
  refine (open8 _ w ?_).mono fun e w' ⟨he, hw⟩ => ⟨?_, hw⟩
  · rw [ByteArray.size_append]
    exact h
  · rw [he, cat_data, hb]
theorem open8_mid (l r : List UInt8) (s : ByteArray) (w : World) (h : l.length + s.size + r.length ≤ 1000000) (b : Bool) (hb : openL (l ++ (s.data.toList ++ r)) = b) : Calls Try.prog 8 #[.string ((⟨l.toArray⟩ : ByteArray) ++ s ++ (⟨r.toArray⟩ : ByteArray))] w fun e w' => e = .returned (.bool b) ∧ Below w.heap.size w w' := by
  refine (open8 _ w ?_).mono fun e w' ⟨he, hw⟩ => ⟨?_, hw⟩
  · rw [ByteArray.size_append, ByteArray.size_append]
    exact h
  · rw [he, cat_data', cat_data, List.append_assoc, hb]

end Go.Proofs.Qxb6603623a

/-
  policy.open and what it calls.
-/
import Derived.Test.Qxb6603623aShelf
import Derived.Test.Qxb6603623aRows
import Derived.WalkKit
import Derived.Below
namespace Go.Proofs.Qxb6603623a
open Go.RowKit Go.Lib

/-- The elements' lengths, a slash behind each. -/
def span : List (List UInt8) → Nat
  | [] => 0
  | e :: r => e.length + 1 + span r

theorem span_els (l : List UInt8) : span (Pa.els l) = l.length + 1 := by
  induction l with
  | nil => rfl
  | cons c t ih =>
    unfold Pa.els
    by_cases h : c = 47
    · rw [if_pos h]; simp [span, ih]; omega
    · rw [if_neg h]
      cases he : Pa.els t with
      | nil => rw [he] at ih; simp [span] at ih
      | cons e r => rw [he] at ih; simp [span] at ih ⊢; omega

theorem span_step (rooted : Bool) (st : List (List UInt8)) (e : List UInt8) : span (Pa.cleanStep rooted st e) ≤ span st + (e.length + 1) := by
  unfold Pa.cleanStep
  split
  · omega
  · split
    · split
      · split
        · simp [span]; omega
        · simp [span]; omega
      · split <;> simp [span]
    · simp [span]; omega

theorem span_fold (rooted : Bool) (es : List (List UInt8)) : ∀ st, span (es.foldl (Pa.cleanStep rooted) st) ≤ span st + span es := by
  induction es with
  | nil => intro st; simp [span]
  | cons e r ih =>
    intro st
    have h1 := ih (Pa.cleanStep rooted st e)
    have h2 := span_step rooted st e
    simp only [List.foldl_cons, span]
    omega

theorem span_append (a b : List (List UInt8)) : span (a ++ b) = span a + span b := by
  induction a with
  | nil => simp [span]
  | cons e r ih => simp [span, ih]; omega

theorem span_reverse (a : List (List UInt8)) : span a.reverse = span a := by
  induction a with
  | nil => rfl
  | cons e r ih => simp [span_append, span, ih]; omega

theorem inter_le (a : List (List UInt8)) : ([47].intercalate a).length ≤ span a := by
  induction a with
  | nil => simp [span]
  | cons e r ih =>
    cases r with
    | nil => simp [span]
    | cons e' r' =>
      have : [47].intercalate (e :: e' :: r') = e ++ (47 :: [47].intercalate (e' :: r')) := by simp [List.intercalate_cons_cons]
      rw [this]
      simp only [List.length_append, List.length_cons, span] at ih ⊢
      omega

theorem clean_len (l : List UInt8) : (Pa.cleanEls l).length ≤ l.length + 2 := by
  unfold Pa.cleanEls
  split
  · simp
  · have h1 := inter_le ((Pa.els l).foldl (Pa.cleanStep (l.head? == some 47)) []).reverse
    rw [span_reverse] at h1
    have h2 := span_fold (l.head? == some 47) (Pa.els l) []
    rw [span_els] at h2
    simp only [span] at h2
    dsimp only
    split
    · simp only [List.length_cons]; omega
    · split
      · simp
      · omega

def resolveL (p : List UInt8) : List UInt8 := if Lib.hasSuffix p [47] = true ∧ Pa.cleanEls p ≠ [47] then Pa.cleanEls p ++ [47] else Pa.cleanEls p

theorem cat_string (a b : List UInt8) : (⟨a.toArray⟩ : ByteArray) ++ ⟨b.toArray⟩ = ⟨(a ++ b).toArray⟩ := by
  apply ByteArray.ext
  simp

set_option maxHeartbeats 400000 in
theorem resolve25 (s : ByteArray) (w : World) (h : s.size ≤ 1000000) : Calls Try.prog 25 #[.string s] w fun e w' => e = .returned (.string ⟨(resolveL s.data.toList).toArray⟩) ∧ Below w.heap.size w w' := by
  have hl := clean_len s.data.toList
  have hl' : (Pa.cleanEls s.data.toList).length ≤ 1000002 := by
    have e : s.data.toList.length = s.size := by simp
    omega
  clear hl
  go_enter Try.func25, Try.ntmps25
  go_wp2_with fail
  refine (Try.path_Clean_rules s w (by omega)).mono ?_
  rintro e w1 ⟨rfl, b1⟩
  go_wp2_with fail
  refine (Try.strings_HasSuffix s ⟨#[47]⟩ w1 (by omega)).mono ?_
  rintro e w2 ⟨rfl, rfl⟩
  go_wp2_with fail
  all_goals go_ret
  · rename_i h1 h2
    refine ⟨?_, b1⟩
    have e : resolveL s.data.toList = Pa.cleanEls s.data.toList ++ [47] := if_pos ⟨h1, by simpa using h2⟩
    rw [e, ← cat_string]
    rfl
  · rename_i h1 h2
    refine ⟨?_, b1⟩
    have e : resolveL s.data.toList = Pa.cleanEls s.data.toList := if_neg (fun h => by simp [h.2] at h2)
    rw [e]
    rfl
  · rename_i h1
    refine ⟨?_, b1⟩
    have e : resolveL s.data.toList = Pa.cleanEls s.data.toList := if_neg (fun h => h1 h.1)
    rw [e]
    rfl

/-- policy.open, plainly. -/
def openL (p : List UInt8) : Bool :=
  resolveL p == p && (p == [47, 114, 111, 98, 111, 116, 115, 46, 116, 120, 116] || p == [47, 102, 97, 118, 105, 99, 111, 110, 46, 105, 99, 111] || Lib.hasPrefix p [47, 46, 119, 101, 108, 108, 45, 107, 110, 111, 119, 110, 47] ||
    Lib.hasSuffix p [46, 114, 115, 115] || Lib.hasSuffix p [46, 120, 109, 108] || Lib.hasSuffix p [46, 97, 116, 111, 109])

end Go.Proofs.Qxb6603623a

/-
  The plain law of FnOpenRefusesDotAndEmptySegments.
-/
import Derived.Test.Qxb6603623aSlash
namespace Go.Proofs.Qxb6603623a
open Go.RowKit Go.Lib

theorem els_one {s : List UInt8} (h : slashB s = false) : Pa.els s = [s] := by
  induction s with
  | nil => rfl
  | cons c t ih =>
    simp only [slashB, List.any_cons, Bool.or_eq_false_iff] at h
    have hc : c ≠ 47 := by simpa using h.1
    unfold Pa.els
    rw [if_neg hc, ih h.2]

theorem suffix_last (l : List UInt8) : Lib.hasSuffix l [47] = (l.getLast? == some 47) := by
  unfold Lib.hasSuffix
  rw [Bool.eq_iff_iff, List.isSuffixOf_iff_suffix]
  rcases List.eq_nil_or_concat l with rfl | ⟨t, c, rfl⟩
  · simp
  · simp only [List.concat_eq_append, List.getLast?_append, List.getLast?_singleton, Option.some_or, beq_iff_eq, Option.some.injEq]
    constructor
    · rintro ⟨u, hu⟩
      have := List.append_inj_right' hu rfl
      simpa using this.symm
    · rintro rfl
      exact ⟨t, rfl⟩

theorem suffix_one {s : List UInt8} (h : slashB s = false) (a : List UInt8) (hs : s ≠ []) : Lib.hasSuffix (a ++ s) [47] = false := by
  rw [suffix_last, List.getLast?_append]
  cases hl : s.getLast? with
  | none => exact absurd (List.getLast?_eq_none_iff.1 hl) hs
  | some c =>
    have hm : c ∈ s := List.mem_of_getLast? hl
    have hc : c ≠ 47 := fun e => by
      have : slashB s = true := by unfold slashB; rw [List.any_eq_true]; exact ⟨c, hm, by simp [e]⟩
      rw [h] at this; cases this
    simp [hc]

section
variable {s : List UInt8} (h : slashB s = false) (h1 : s ≠ [46]) (h2 : s ≠ [46, 46])
include h h1 h2

theorem clean_wk : Pa.cleanEls ([47, 46, 119, 101, 108, 108, 45, 107, 110, 111, 119, 110, 47] ++ s) = if s = [] then [47, 46, 119, 101, 108, 108, 45, 107, 110, 111, 119, 110] else [47, 46, 119, 101, 108, 108, 45, 107, 110, 111, 119, 110, 47] ++ s := by
  have he := els_one h
  by_cases h0 : s = []
  · subst h0; decide
  · simp [Pa.cleanEls, Pa.els, he, Pa.cleanStep, h0, h1, h2]
theorem clean_wkd : Pa.cleanEls ([47, 46, 119, 101, 108, 108, 45, 107, 110, 111, 119, 110, 47, 46, 47] ++ s) = if s = [] then [47, 46, 119, 101, 108, 108, 45, 107, 110, 111, 119, 110] else [47, 46, 119, 101, 108, 108, 45, 107, 110, 111, 119, 110, 47] ++ s := by
  have he := els_one h
  by_cases h0 : s = []
  · subst h0; decide
  · simp [Pa.cleanEls, Pa.els, he, Pa.cleanStep, h0, h1, h2]
theorem clean_wks : Pa.cleanEls ([47, 46, 119, 101, 108, 108, 45, 107, 110, 111, 119, 110, 47, 47] ++ s) = if s = [] then [47, 46, 119, 101, 108, 108, 45, 107, 110, 111, 119, 110] else [47, 46, 119, 101, 108, 108, 45, 107, 110, 111, 119, 110, 47] ++ s := by
  have he := els_one h
  by_cases h0 : s = []
  · subst h0; decide
  · simp [Pa.cleanEls, Pa.els, he, Pa.cleanStep, h0, h1, h2]
theorem clean_wkdd : Pa.cleanEls ([47, 46, 119, 101, 108, 108, 45, 107, 110, 111, 119, 110, 47, 46, 46, 47] ++ s) = 47 :: s := by
  have he := els_one h
  by_cases h0 : s = []
  · subst h0; decide
  · simp [Pa.cleanEls, Pa.els, he, Pa.cleanStep, h0, h1, h2]

theorem open_wk : openL ([47, 46, 119, 101, 108, 108, 45, 107, 110, 111, 119, 110, 47] ++ s) = true := by
  have hr : resolveL ([47, 46, 119, 101, 108, 108, 45, 107, 110, 111, 119, 110, 47] ++ s) = [47, 46, 119, 101, 108, 108, 45, 107, 110, 111, 119, 110, 47] ++ s := by
    unfold resolveL
    rw [clean_wk h h1 h2]
    by_cases h0 : s = []
    · subst h0; decide
    · rw [if_neg h0, suffix_one h _ h0]; simp
  have hp : Lib.hasPrefix ([47, 46, 119, 101, 108, 108, 45, 107, 110, 111, 119, 110, 47] ++ s) [47, 46, 119, 101, 108, 108, 45, 107, 110, 111, 119, 110, 47] = true := by simp [Lib.hasPrefix]
  unfold openL
  rw [hr, hp]
  simp
theorem open_wkd : openL ([47, 46, 119, 101, 108, 108, 45, 107, 110, 111, 119, 110, 47, 46, 47] ++ s) = false := by
  have hr : (resolveL ([47, 46, 119, 101, 108, 108, 45, 107, 110, 111, 119, 110, 47, 46, 47] ++ s) == [47, 46, 119, 101, 108, 108, 45, 107, 110, 111, 119, 110, 47, 46, 47] ++ s) = false := by
    unfold resolveL
    rw [clean_wkd h h1 h2]
    by_cases h0 : s = []
    · subst h0; decide
    · rw [if_neg h0, suffix_one h _ h0]; simp; intro e; have := congrArg List.length e; simp at this; omega
  unfold openL
  rw [hr]
  rfl
theorem open_wks : openL ([47, 46, 119, 101, 108, 108, 45, 107, 110, 111, 119, 110, 47, 47] ++ s) = false := by
  have hr : (resolveL ([47, 46, 119, 101, 108, 108, 45, 107, 110, 111, 119, 110, 47, 47] ++ s) == [47, 46, 119, 101, 108, 108, 45, 107, 110, 111, 119, 110, 47, 47] ++ s) = false := by
    unfold resolveL
    rw [clean_wks h h1 h2]
    by_cases h0 : s = []
    · subst h0; decide
    · rw [if_neg h0, suffix_one h _ h0]; simp
  unfold openL
  rw [hr]
  rfl
theorem open_wkdd : openL ([47, 46, 119, 101, 108, 108, 45, 107, 110, 111, 119, 110, 47, 46, 46, 47] ++ s) = false := by
  have hr : (resolveL ([47, 46, 119, 101, 108, 108, 45, 107, 110, 111, 119, 110, 47, 46, 46, 47] ++ s) == [47, 46, 119, 101, 108, 108, 45, 107, 110, 111, 119, 110, 47, 46, 46, 47] ++ s) = false := by
    unfold resolveL
    rw [clean_wkdd h h1 h2]
    by_cases h0 : s = []
    · subst h0; decide
    · rw [suffix_one h _ h0]; simp; intro e; have := congrArg List.length e; simp at this; omega
  unfold openL
  rw [hr]
  rfl
end

theorem slash_append (a b : List UInt8) : slashB (a ++ b) = (slashB a || slashB b) := by simp [slashB]

section
variable {s : List UInt8} (h : slashB s = false)
include h

theorem slash_xml : slashB (s ++ [46, 120, 109, 108]) = false := by rw [slash_append, h]; rfl
theorem clean_xml : Pa.cleanEls (47 :: (s ++ [46, 120, 109, 108])) = 47 :: (s ++ [46, 120, 109, 108]) := by
  have he := els_one (slash_xml h)
  have n1 : s ++ [46, 120, 109, 108] ≠ [46] := fun e => by have := congrArg List.length e; simp at this
  have n2 : s ++ [46, 120, 109, 108] ≠ [46, 46] := fun e => by have := congrArg List.length e; simp at this
  have n0 : s ++ [46, 120, 109, 108] ≠ [] := by simp
  generalize s ++ [46, 120, 109, 108] = t at *
  simp [Pa.cleanEls, Pa.els, he, Pa.cleanStep, n0, n1, n2]
theorem clean_xx : Pa.cleanEls ([47, 120, 47, 46, 46, 47] ++ (s ++ [46, 120, 109, 108])) = 47 :: (s ++ [46, 120, 109, 108]) := by
  have he := els_one (slash_xml h)
  have n1 : s ++ [46, 120, 109, 108] ≠ [46] := fun e => by have := congrArg List.length e; simp at this
  have n2 : s ++ [46, 120, 109, 108] ≠ [46, 46] := fun e => by have := congrArg List.length e; simp at this
  have n0 : s ++ [46, 120, 109, 108] ≠ [] := by simp
  generalize s ++ [46, 120, 109, 108] = t at *
  simp [Pa.cleanEls, Pa.els, he, Pa.cleanStep, n0, n1, n2]
theorem open_xml : openL (47 :: (s ++ [46, 120, 109, 108])) = true := by
  have hr : resolveL (47 :: (s ++ [46, 120, 109, 108])) = 47 :: (s ++ [46, 120, 109, 108]) := by
    unfold resolveL
    rw [clean_xml h]
    have := suffix_one (slash_xml h) [47] (by simp)
    simp only [List.singleton_append] at this
    rw [this]; simp
  have hp : Lib.hasSuffix (47 :: (s ++ [46, 120, 109, 108])) [46, 120, 109, 108] = true := by
    unfold Lib.hasSuffix
    rw [List.isSuffixOf_iff_suffix]
    exact ⟨47 :: s, by simp⟩
  unfold openL
  rw [hr, hp]
  simp
theorem open_xx : openL ([47, 120, 47, 46, 46, 47] ++ (s ++ [46, 120, 109, 108])) = false := by
  have hr : (resolveL ([47, 120, 47, 46, 46, 47] ++ (s ++ [46, 120, 109, 108])) == [47, 120, 47, 46, 46, 47] ++ (s ++ [46, 120, 109, 108])) = false := by
    unfold resolveL
    rw [clean_xx h, suffix_one (slash_xml h) _ (by simp)]
    simp; intro e; have := congrArg List.length e; simp at this
  unfold openL
  rw [hr]
  rfl
end

end Go.Proofs.Qxb6603623a

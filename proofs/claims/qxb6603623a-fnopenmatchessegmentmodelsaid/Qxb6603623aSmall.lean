/-
  zzBytes of law 4, zzProperSeg, zzHasSuffix.
-/
import Derived.Test.Qxb6603623aCanon
namespace Go.Proofs.Qxb6603623a
open Go.RowKit

theorem bytes9 (s : ByteArray) (w : World) (h : s.size ≤ maxLen) : Calls Try.prog 9 #[.string s] w fun e w' => ∃ b : Bool, e = .returned (.bool b) ∧ w' = w := by
  unfold maxLen at h
  go_enter Try.func9, Try.ntmps9
  go_wp2
  all_goals go_ret
  all_goals exact ⟨_, rfl, rfl⟩

theorem proper33 (s : ByteArray) (w : World) : Calls Try.prog 33 #[.string s] w fun e w' => e = .returned (.bool (properB s.data.toList)) ∧ w' = w := by
  have HE : Hid (properB s.data.toList = (!(s.toList == []) && (!(s.toList == [46]) && !(s.toList == [46, 46])))) := hide (by rw [ByteArray.toList_eq]; rfl)
  cases e0 : (s.toList == []) with
  | true =>
    go_enter Try.func33, Try.ntmps33
    go_wp2
    go_ret
    exact ⟨by rw [unhide HE, e0]; rfl, rfl⟩
  | false =>
    cases e1 : (s.toList == [46]) with
    | true =>
      go_enter Try.func33, Try.ntmps33
      go_wp2
      go_ret
      exact ⟨by rw [unhide HE, e0, e1]; rfl, rfl⟩
    | false =>
      cases e2 : (s.toList == [46, 46]) with
      | true =>
        go_enter Try.func33, Try.ntmps33
        go_wp2
        go_ret
        exact ⟨by rw [unhide HE, e0, e1, e2]; rfl, rfl⟩
      | false =>
        go_enter Try.func33, Try.ntmps33
        go_wp2
        go_ret
        exact ⟨by rw [unhide HE, e0, e1, e2]; rfl, rfl⟩

theorem ext_list (s : ByteArray) (a b : Nat) : (s.extract a b).data.toList = (s.data.toList.take b).drop a := by
  rw [ByteArray.data_extract, Array.toList_extract, List.extract_eq_take_drop, List.drop_take]

theorem ext_eq (s : ByteArray) (a b : Nat) : s.extract a b = ⟨((s.data.toList.take b).drop a).toArray⟩ := by
  apply ByteArray.ext
  rw [← ext_list]

theorem size_list (s : ByteArray) : s.data.toList.length = s.size := by simp

theorem suf_drop (s t : List UInt8) : Lib.hasSuffix s t = (s.drop (s.length - t.length) == t) := by
  unfold Lib.hasSuffix
  rw [Bool.eq_iff_iff, List.isSuffixOf_iff_suffix, List.suffix_iff_eq_drop, beq_iff_eq]
  exact eq_comm

set_option maxHeartbeats 400000 in
theorem suffix20 (s t : ByteArray) (w : World) (hs : s.size ≤ 1000000) (ht : t.size ≤ 1000000) : Calls Try.prog 20 #[.string s, .string t] w fun e w' => e = .returned (.bool (Lib.hasSuffix s.data.toList t.data.toList)) ∧ w' = w := by
  by_cases hlt : s.size < t.size
  · go_enter Try.func20, Try.ntmps20
    go_wp2
    go_ret
    refine ⟨?_, rfl⟩
    have : Lib.hasSuffix s.data.toList t.data.toList = false := by
      unfold Lib.hasSuffix
      rw [Bool.eq_false_iff]
      intro e
      rw [List.isSuffixOf_iff_suffix] at e
      have := e.length_le
      rw [size_list, size_list] at this
      omega
    rw [this]
    rfl
  · go_enter Try.func20, Try.ntmps20
    go_wp2
    go_ret
    refine ⟨?_, rfl⟩
    rw [suf_drop, size_list, size_list]
    have e1 : (s.extract (s.size - t.size) s.size).toList = s.data.toList.drop (s.size - t.size) := by
      rw [ByteArray.toList_eq, ext_list, List.take_of_length_le (by rw [size_list]; exact Nat.le_refl _)]
    rw [← e1, ← ByteArray.toList_eq t]
    rfl

/-! ### zzSplit, plainly -/

def strV (e : List UInt8) : Value := .string ⟨e.toArray⟩

theorem els_put {c : UInt8} (hc : c ≠ 47) (q : List UInt8) : ∀ {a : List (List UInt8)} {s : List UInt8}, Lib.Pa.els q = a ++ [s] → Lib.Pa.els (q ++ [c]) = a ++ [s ++ [c]] := by
  induction q with
  | nil =>
    intro a s h
    have h' : [[]] = a ++ [s] := h
    cases a with
    | nil =>
      have : s = [] := by simpa using h'.symm
      subst this
      simp [Lib.Pa.els, hc]
    | cons x r => simp at h'
  | cons d t ih =>
    intro a s h
    by_cases hd : d = 47
    · subst hd
      rw [els_slash] at h
      cases a with
      | nil => simp [els_ne] at h
      | cons x r =>
        simp only [List.cons_append, List.cons.injEq] at h
        rw [List.cons_append, els_slash, ih h.2, ← h.1]; rfl
    · cases hx : Lib.Pa.els t with
      | nil => exact absurd hx (els_ne t)
      | cons e r =>
        rw [els_cons hd hx] at h
        cases a with
        | nil =>
          have h1 : r = [] ∧ d :: e = s := by simpa [and_comm] using h
          obtain ⟨rfl, rfl⟩ := h1
          rw [List.cons_append, els_cons hd (ih (a := []) hx)]
          rfl
        | cons x r2 =>
          simp only [List.cons_append, List.cons.injEq] at h
          have := ih (a := e :: r2) (s := s) (by rw [hx, h.2]; rfl)
          rw [List.cons_append, els_cons hd this, ← h.1]; rfl

/-- zzSplit's state at place k: 'out' the segments that are cut off, 'st' where the one in hand begins. -/
def Cut (l : List UInt8) (k st : Nat) (out : List (List UInt8)) : Prop := st ≤ k ∧ out.length ≤ k ∧ Lib.Pa.els (l.take k) = out ++ [(l.take k).drop st]

theorem Cut.zero (l : List UInt8) : Cut l 0 0 [] := ⟨Nat.le_refl _, Nat.le_refl _, rfl⟩

theorem Cut.slash {l : List UInt8} {k st : Nat} {out : List (List UInt8)} (h : Cut l k st out) (hk : k < l.length) (hc : l[k] = 47) : Cut l (k + 1) (k + 1) (out ++ [(l.take k).drop st]) := by
  refine ⟨Nat.le_refl _, by simp [h.2.1], ?_⟩
  rw [List.take_add_one, List.getElem?_eq_getElem hk, hc]
  simp only [Option.toList_some]
  rw [els_snoc, h.2.2]
  have : List.drop (k + 1) (l.take k ++ [47]) = [] := by
    apply List.drop_eq_nil_of_le
    simp
    omega
  rw [this]

theorem Cut.on {l : List UInt8} {k st : Nat} {out : List (List UInt8)} (h : Cut l k st out) (hk : k < l.length) (hc : l[k] ≠ 47) : Cut l (k + 1) st out := by
  refine ⟨Nat.le_succ_of_le h.1, Nat.le_succ_of_le h.2.1, ?_⟩
  rw [List.take_add_one, List.getElem?_eq_getElem hk]
  simp only [Option.toList_some]
  rw [els_put hc _ h.2.2, List.drop_append_of_le_length]
  rw [List.length_take]
  have := h.1
  omega

theorem Cut.whole {l : List UInt8} {st : Nat} {out : List (List UInt8)} (h : Cut l l.length st out) : out ++ [(l.take l.length).drop st] = Lib.Pa.els l := by
  rw [← h.2.2, List.take_length]

end Go.Proofs.Qxb6603623a

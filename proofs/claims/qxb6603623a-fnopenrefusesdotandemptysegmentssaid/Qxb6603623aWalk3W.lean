/-
  The walk of FnOpenRefusesDotAndEmptySegments, whole.
-/
import Derived.Test.Qxb6603623aWalk3
namespace Go.Proofs.Qxb6603623a
open Go.RowKit

set_option maxHeartbeats 2000000 in
theorem walk3 (s : ByteArray) (hm : s.size ≤ maxLen) (w : World) : Calls Try.prog 3 #[.string s] w fun e w' => e = .returned (.bool true) ∧ Below w.heap.size w w' := by
  have hm' : s.size ≤ 9223372036854775807 := by unfold maxLen at hm; omega
  have HM := hide hm
  clear hm
  by_cases hbig : s.size ≤ 65536
  · have E : Hid (s.toList = s.data.toList) := hide (ByteArray.toList_eq s)
    go_enter Try.func3, Try.ntmps3
    go_wp2_with fail
    refine (bytes6 s w (unhide HM)).mono ?_
    rintro e w ⟨b, rfl, hb, rfl⟩
    have hb' := hb hbig
    subst hb'
    clear hb
    go_wp2_with fail
    refine (slash7 s w (by omega)).mono ?_
    rintro e w ⟨rfl, rfl⟩
    cases hs : slashB s.data.toList with
    | true =>
      go_wp2
      go_ret
      exact ⟨rfl, Below.refl _ _⟩
    | false =>
      cases e1 : (s.toList == [46]) with
      | true =>
        go_wp2
        go_ret
        exact ⟨rfl, Below.refl _ _⟩
      | false =>
        cases e2 : (s.toList == [46, 46]) with
        | true =>
          go_wp2
          go_ret
          exact ⟨rfl, Below.refl _ _⟩
        | false =>
          have HS := hide hs
          have H1 : Hid (s.data.toList ≠ [46]) := hide (by rw [← unhide E]; simpa using e1)
          have H2 : Hid (s.data.toList ≠ [46, 46]) := hide (by rw [← unhide E]; simpa using e2)
          clear hs
          go_wp2_with fail
          refine (open8_pre [47, 46, 119, 101, 108, 108, 45, 107, 110, 111, 119, 110, 47] s _ (by simp; omega) true (open_wk (unhide HS) (unhide H1) (unhide H2))).mono ?_
          rintro e x0 ⟨rfl, b0⟩
          go_wp2_with fail
          refine (open8_pre [47, 46, 119, 101, 108, 108, 45, 107, 110, 111, 119, 110, 47, 46, 47] s _ (by simp; omega) false (open_wkd (unhide HS) (unhide H1) (unhide H2))).mono ?_
          rintro e x1 ⟨rfl, b1⟩
          go_wp2_with fail
          refine (open8_pre [47, 46, 119, 101, 108, 108, 45, 107, 110, 111, 119, 110, 47, 47] s _ (by simp; omega) false (open_wks (unhide HS) (unhide H1) (unhide H2))).mono ?_
          rintro e x2 ⟨rfl, b2⟩
          go_wp2_with fail
          refine (open8_pre [47, 46, 119, 101, 108, 108, 45, 107, 110, 111, 119, 110, 47, 46, 46, 47] s _ (by simp; omega) false (open_wkdd (unhide HS) (unhide H1) (unhide H2))).mono ?_
          rintro e x3 ⟨rfl, b3⟩
          go_wp2_with fail
          refine (open8_mid [47] [46, 120, 109, 108] s _ (by simp; omega) true (open_xml (unhide HS))).mono ?_
          rintro e x4 ⟨rfl, b4⟩
          go_wp2_with fail
          refine (open8_mid [47, 120, 47, 46, 46, 47] [46, 120, 109, 108] s _ (by simp; omega) false (open_xx (unhide HS))).mono ?_
          rintro e x5 ⟨rfl, b5⟩
          go_wp2_with fail
          go_ret
          exact ⟨rfl, b0.trans ((b1.mono b0.size).trans ((b2.mono (by have := b0.size; have := b1.size; omega)).trans ((b3.mono (by have := b0.size; have := b1.size; have := b2.size; omega)).trans ((b4.mono (by have := b0.size; have := b1.size; have := b2.size; have := b3.size; omega)).trans (b5.mono (by have := b0.size; have := b1.size; have := b2.size; have := b3.size; have := b4.size; omega))))))⟩
  · go_enter Try.func3, Try.ntmps3
    go_wp2_with fail
    refine (bytes6 s w (unhide HM)).mono ?_
    rintro e w ⟨b, rfl, hb, rfl⟩
    cases b with
    | true =>
      go_wp2
      go_ret
      exact ⟨rfl, Below.refl _ _⟩
    | false =>
      go_wp2
      go_ret
      exact ⟨rfl, Below.refl _ _⟩

end Go.Proofs.Qxb6603623a

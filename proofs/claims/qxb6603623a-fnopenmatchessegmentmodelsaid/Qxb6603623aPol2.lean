/-
  policy.open, ZZOpen.
-/
import Derived.Test.Qxb6603623aPol
namespace Go.Proofs.Qxb6603623a
open Go.RowKit Go.Lib

theorem hide {p : Prop} (h : p) : Hid p := h
theorem unhide {p : Prop} (h : Hid p) : p := h

set_option maxHeartbeats 1000000 in
theorem open17 (s : ByteArray) (w : World) (h : s.size ≤ 1000000) : Calls Try.prog 17 #[.string s] w fun e w' => e = .returned (.bool (openL s.data.toList)) ∧ Below w.heap.size w w' := by
  have HE : Hid (openL s.data.toList = (resolveL s.data.toList == s.toList && (s.toList == [47, 114, 111, 98, 111, 116, 115, 46, 116, 120, 116] || s.toList == [47, 102, 97, 118, 105, 99, 111, 110, 46, 105, 99, 111] || Lib.hasPrefix s.data.toList [47, 46, 119, 101, 108, 108, 45, 107, 110, 111, 119, 110, 47] ||
    Lib.hasSuffix s.data.toList [46, 114, 115, 115] || Lib.hasSuffix s.data.toList [46, 120, 109, 108] || Lib.hasSuffix s.data.toList [46, 97, 116, 111, 109]))) := hide (by rw [ByteArray.toList_eq]; rfl)
  have P0 := hide (fun w => Try.strings_HasPrefix s ⟨#[47, 46, 119, 101, 108, 108, 45, 107, 110, 111, 119, 110, 47]⟩ w)
  have P1 := hide (fun w => Try.strings_HasSuffix s ⟨#[46, 114, 115, 115]⟩ w (by omega))
  have P2 := hide (fun w => Try.strings_HasSuffix s ⟨#[46, 120, 109, 108]⟩ w (by omega))
  have P3 := hide (fun w => Try.strings_HasSuffix s ⟨#[46, 97, 116, 111, 109]⟩ w (by omega))
  cases e0 : (resolveL s.data.toList == s.toList) with
  | false =>
    go_enter Try.func17, Try.ntmps17
    go_wp2_with fail
    refine (resolve25 s w h).mono ?_
    rintro e w1 ⟨rfl, b1⟩
    go_wp2_with fail
    go_ret
    refine ⟨?_, b1⟩
    rw [unhide HE, e0]
    rfl
  | true =>
    cases e1 : (s.toList == [47, 114, 111, 98, 111, 116, 115, 46, 116, 120, 116]) with
    | true =>
      go_enter Try.func17, Try.ntmps17
      go_wp2_with fail
      refine (resolve25 s w h).mono ?_
      rintro e w1 ⟨rfl, b1⟩
      go_wp2_with fail
      go_ret
      refine ⟨?_, b1⟩
      rw [unhide HE, e0, e1]
      rfl
    | false =>
      cases e2 : (s.toList == [47, 102, 97, 118, 105, 99, 111, 110, 46, 105, 99, 111]) with
      | true =>
        go_enter Try.func17, Try.ntmps17
        go_wp2_with fail
        refine (resolve25 s w h).mono ?_
        rintro e w1 ⟨rfl, b1⟩
        go_wp2_with fail
        go_ret
        refine ⟨?_, b1⟩
        rw [unhide HE, e0, e1, e2]
        rfl
      | false =>
        cases e3 : Lib.hasPrefix s.data.toList [47, 46, 119, 101, 108, 108, 45, 107, 110, 111, 119, 110, 47] with
        | true =>
          go_enter Try.func17, Try.ntmps17
          go_wp2_with fail
          refine (resolve25 s w h).mono ?_
          rintro e w1 ⟨rfl, b1⟩
          go_wp2_with fail
          refine (unhide P0 w1).mono ?_
          rintro e w1 ⟨rfl, rfl⟩
          go_wp2_with fail
          go_ret
          refine ⟨?_, b1⟩
          rw [unhide HE, e0, e1, e2, e3]
          rfl
        | false =>
          cases e4 : Lib.hasSuffix s.data.toList [46, 114, 115, 115] with
          | true =>
            go_enter Try.func17, Try.ntmps17
            go_wp2_with fail
            refine (resolve25 s w h).mono ?_
            rintro e w1 ⟨rfl, b1⟩
            go_wp2_with fail
            refine (unhide P0 w1).mono ?_
            rintro e w1 ⟨rfl, rfl⟩
            go_wp2_with fail
            refine (unhide P1 w1).mono ?_
            rintro e w1 ⟨rfl, rfl⟩
            go_wp2_with fail
            go_ret
            refine ⟨?_, b1⟩
            rw [unhide HE, e0, e1, e2, e3, e4]
            rfl
          | false =>
            cases e5 : Lib.hasSuffix s.data.toList [46, 120, 109, 108] with
            | true =>
              go_enter Try.func17, Try.ntmps17
              go_wp2_with fail
              refine (resolve25 s w h).mono ?_
              rintro e w1 ⟨rfl, b1⟩
              go_wp2_with fail
              refine (unhide P0 w1).mono ?_
              rintro e w1 ⟨rfl, rfl⟩
              go_wp2_with fail
              refine (unhide P1 w1).mono ?_
              rintro e w1 ⟨rfl, rfl⟩
              go_wp2_with fail
              refine (unhide P2 w1).mono ?_
              rintro e w1 ⟨rfl, rfl⟩
              go_wp2_with fail
              go_ret
              refine ⟨?_, b1⟩
              rw [unhide HE, e0, e1, e2, e3, e4, e5]
              rfl
            | false =>
              cases e6 : Lib.hasSuffix s.data.toList [46, 97, 116, 111, 109] with
              | true =>
                go_enter Try.func17, Try.ntmps17
                go_wp2_with fail
                refine (resolve25 s w h).mono ?_
                rintro e w1 ⟨rfl, b1⟩
                go_wp2_with fail
                refine (unhide P0 w1).mono ?_
                rintro e w1 ⟨rfl, rfl⟩
                go_wp2_with fail
                refine (unhide P1 w1).mono ?_
                rintro e w1 ⟨rfl, rfl⟩
                go_wp2_with fail
                refine (unhide P2 w1).mono ?_
                rintro e w1 ⟨rfl, rfl⟩
                go_wp2_with fail
                refine (unhide P3 w1).mono ?_
                rintro e w1 ⟨rfl, rfl⟩
                go_wp2_with fail
                go_ret
                refine ⟨?_, b1⟩
                rw [unhide HE, e0, e1, e2, e3, e4, e5, e6]
                rfl
              | false =>
                go_enter Try.func17, Try.ntmps17
                go_wp2_with fail
                refine (resolve25 s w h).mono ?_
                rintro e w1 ⟨rfl, b1⟩
                go_wp2_with fail
                refine (unhide P0 w1).mono ?_
                rintro e w1 ⟨rfl, rfl⟩
                go_wp2_with fail
                refine (unhide P1 w1).mono ?_
                rintro e w1 ⟨rfl, rfl⟩
                go_wp2_with fail
                refine (unhide P2 w1).mono ?_
                rintro e w1 ⟨rfl, rfl⟩
                go_wp2_with fail
                refine (unhide P3 w1).mono ?_
                rintro e w1 ⟨rfl, rfl⟩
                go_wp2_with fail
                go_ret
                refine ⟨?_, b1⟩
                rw [unhide HE, e0, e1, e2, e3, e4, e5, e6]
                rfl

theorem open8 (s : ByteArray) (w : World) (h : s.size ≤ 1000000) : Calls Try.prog 8 #[.string s] w fun e w' => e = .returned (.bool (openL s.data.toList)) ∧ Below w.heap.size w w' := by
  go_enter Try.func8, Try.ntmps8
  go_wp2_with fail
  refine (open17 s w h).mono ?_
  rintro e w1 ⟨rfl, b1⟩
  go_wp2
  go_ret
  exact ⟨rfl, b1⟩

end Go.Proofs.Qxb6603623a

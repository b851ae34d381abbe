/-
  The walk of FnHeldVotersAddExact: the short ways.
-/
import Derived.Test.Qxb6603397aWalk6
import Derived.Test.Qxb6603397aCount
namespace Go.Proofs.Qxb6603397a
open Go.RowKit Go.Maps

set_option maxRecDepth 100000 in
set_option maxHeartbeats 1000000 in
/-- One of the lists is long: it answers at once. -/
theorem walk5_long (a0 : Option Addr) (n0 c0 : Nat) (a1 : Option Addr) (n1 c1 : Nat) (hs : Bool) (a3 : Option Addr) (n3 c3 : Nat) (w : World) (m0 : n0 ≤ maxLen) (m1 : n1 ≤ maxLen) (m3 : n3 ≤ maxLen) (hbig : ¬ (n0 ≤ 4096 ∧ n1 ≤ 4096 ∧ n3 ≤ 4096)) :
    Calls Try.prog 5 #[.slice a0 n0 c0, .slice a1 n1 c1, .bool hs, .slice a3 n3 c3] w fun e w' => e = .returned (.bool true) ∧ Below w.heap.size w w' := by
  go_enter Try.func5, Try.ntmps5
  go_wp2_with fail
  refine (bytes18 a0 a1 a3 n0 c0 n1 c1 n3 c3 hs w m0 m1 m3).mono ?_
  rintro e w' ⟨b, rfl, rfl, _⟩
  unfold maxLen at m0 m1 m3
  cases b with
  | false =>
    go_wp2
    go_ret
    exact ⟨rfl, Below.refl _ _⟩
  | true =>
    by_cases h0 : n0 ≤ 4096
    · by_cases h1 : n1 ≤ 4096
      · have h3 : 4096 < n3 := by omega
        go_wp2
        go_ret
        exact ⟨rfl, Below.refl _ _⟩
      · go_wp2
        go_ret
        exact ⟨rfl, Below.refl _ _⟩
    · go_wp2
      go_ret
      exact ⟨rfl, Below.refl _ _⟩

set_option maxRecDepth 100000 in
set_option maxHeartbeats 1000000 in
/-- One of the two lists is not increasing. -/
theorem walk5_not (a0 : Option Addr) (n0 c0 : Nat) (F : List Int) (a1 : Option Addr) (n1 c1 : Nat) (hs : Bool) (a3 : Option Addr) (n3 c3 : Nat) (X : List Int) (w : World) (h0 : Sl w.heap.size w a0 n0 c0 F) (h3 : Sl w.heap.size w a3 n3 c3 X)
    (l0 : n0 ≤ 4096) (l1 : n1 ≤ 4096) (l3 : n3 ≤ 4096) (hnot : ¬ (incB F = true ∧ incB X = true)) :
    Calls Try.prog 5 #[.slice a0 n0 c0, .slice a1 n1 c1, .bool hs, .slice a3 n3 c3] w fun e w' => e = .returned (.bool true) ∧ Below w.heap.size w w' := by
  have H := hide (And.intro h0 h3)
  have HN := hide hnot
  clear h0 h3 hnot
  go_enter Try.func5, Try.ntmps5
  go_wp2_with fail
  refine (bytes18 a0 a1 a3 n0 c0 n1 c1 n3 c3 hs w (by unfold maxLen; omega) (by unfold maxLen; omega) (by unfold maxLen; omega)).mono ?_
  rintro e w' ⟨b, rfl, rfl, hb⟩
  have hb' := hb l0 l1 l3
  clear hb
  subst hb'
  go_wp2_with fail
  refine (inc19 (unhide H).1).mono ?_
  rintro e w' ⟨rfl, q, rfl⟩
  by_cases hF : incB F = true
  · have hX : incB X = false := by
      cases hx : incB X with
      | false => rfl
      | true => exact absurd ⟨hF, hx⟩ (unhide HN)
    rw [hF]
    go_wp2_with fail
    refine (inc19 ((unhide H).2.below (below_of_drew q))).mono ?_
    rintro e w' ⟨rfl, q', rfl⟩
    rw [hX]
    go_wp2
    go_ret
    exact ⟨rfl, below_of_drew _⟩
  · have hF' : incB F = false := by simpa using hF
    rw [hF']
    clear hF
    go_wp2
    go_ret
    exact ⟨rfl, below_of_drew q⟩

end Go.Proofs.Qxb6603397a

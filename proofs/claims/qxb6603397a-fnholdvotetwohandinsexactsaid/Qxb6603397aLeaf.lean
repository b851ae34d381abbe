/-
  Leaves: the size tests, cmp and slices helpers at uint64, the read-only helpers of the laws.
-/
import Derived.Test.Qxb6603397aRows
import Derived.WalkKit
import Derived.WalkSpells
import Derived.WalkLawsBesides
import Derived.Deep.QuietTactic
import Derived.BigQuiet
namespace Go.Proofs.Qxb6603397a
open Go.RowKit

set_option maxHeartbeats 400000 in
theorem nan57 (x : Int) (w : World) : Calls Try.prog 57 #[.int .u64 x] w fun e w' => e = .returned (.bool false) ∧ w' = w := by
  go_enter Try.func57, Try.ntmps57
  go_wp2
  go_ret
  exact ⟨by simp, rfl⟩

set_option maxHeartbeats 400000 in
theorem nan56 (x : Int) (w : World) : Calls Try.prog 56 #[.int .u64 x] w fun e w' => e = .returned (.bool false) ∧ w' = w := by
  go_enter Try.func56, Try.ntmps56
  go_wp2
  go_ret
  exact ⟨by simp, rfl⟩

set_option maxHeartbeats 400000 in
theorem less55 (x y : Int) (w : World) : Calls Try.prog 55 #[.int .u64 x, .int .u64 y] w fun e w' => e = .returned (.bool (decide (x < y))) ∧ w' = w := by
  go_enter Try.func55, Try.ntmps55
  go_wp2_with (go_at_call 57; refine (nan57 _ _).mono ?_; rintro e w' ⟨rfl, rfl⟩)
  go_ret
  exact ⟨rfl, rfl⟩

/-- zzBytes_FnHeldVotersAddAgainAddsNothing: it answers; where each length is at most 4096 the answer is yes. -/
theorem bytes29 (a0 a1 a3 : Option Addr) (n0 c0 n1 c1 n3 c3 : Nat) (h : Bool) (w : World) (m0 : n0 ≤ maxLen) (m1 : n1 ≤ maxLen) (m3 : n3 ≤ maxLen) :
    Calls Try.prog 29 #[.slice a0 n0 c0, .slice a1 n1 c1, .bool h, .slice a3 n3 c3] w fun e w' => ∃ b : Bool, e = .returned (.bool b) ∧ w' = w ∧ (n0 ≤ 4096 → n1 ≤ 4096 → n3 ≤ 4096 → b = true) := by
  unfold maxLen at m0 m1 m3
  go_enter Try.func29, Try.ntmps29
  go_wp2
  all_goals go_ret
  all_goals refine ⟨_, rfl, rfl, ?_⟩
  all_goals first | (intro _ _ _; rfl) | (intro _ _ _; omega)

theorem bytes18 (a0 a1 a3 : Option Addr) (n0 c0 n1 c1 n3 c3 : Nat) (h : Bool) (w : World) (m0 : n0 ≤ maxLen) (m1 : n1 ≤ maxLen) (m3 : n3 ≤ maxLen) :
    Calls Try.prog 18 #[.slice a0 n0 c0, .slice a1 n1 c1, .bool h, .slice a3 n3 c3] w fun e w' => ∃ b : Bool, e = .returned (.bool b) ∧ w' = w ∧ (n0 ≤ 4096 → n1 ≤ 4096 → n3 ≤ 4096 → b = true) := by
  unfold maxLen at m0 m1 m3
  go_enter Try.func18, Try.ntmps18
  go_wp2
  all_goals go_ret
  all_goals refine ⟨_, rfl, rfl, ?_⟩
  all_goals first | (intro _ _ _; rfl) | (intro _ _ _; omega)

end Go.Proofs.Qxb6603397a

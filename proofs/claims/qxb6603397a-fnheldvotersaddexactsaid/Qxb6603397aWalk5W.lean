/-
  The walk of FnHeldVotersAddExact, whole.
-/
import Derived.Test.Qxb6603397aWalk5FE
import Derived.Test.Qxb6603397aWalk5FN
import Derived.Test.Qxb6603397aWalk5TE
import Derived.Test.Qxb6603397aWalk5TN
namespace Go.Proofs.Qxb6603397a
open Go.RowKit Go.Maps

theorem walk5 (a0 : Option Addr) (n0 c0 : Nat) (F : List Int) (a1 : Option Addr) (n1 c1 : Nat) (S : List Int) (hs : Bool) (a3 : Option Addr) (n3 c3 : Nat) (X : List Int) (w : World) (h0 : Sl w.heap.size w a0 n0 c0 F) (h1 : Sl w.heap.size w a1 n1 c1 S) (h3 : Sl w.heap.size w a3 n3 c3 X) :
    Calls Try.prog 5 #[.slice a0 n0 c0, .slice a1 n1 c1, .bool hs, .slice a3 n3 c3] w fun e w' => e = .returned (.bool true) ∧ Below w.heap.size w w' := by
  by_cases hl : n0 ≤ 4096 ∧ n1 ≤ 4096 ∧ n3 ≤ 4096
  · obtain ⟨l0, l1, l3⟩ := hl
    by_cases hinc : incB F = true ∧ incB X = true
    · cases hs with
      | false =>
        by_cases hY : news X F = []
        · exact walk5_fe a0 n0 c0 F a1 n1 c1 S a3 n3 c3 X w h0 h1 h3 l0 l1 l3 hinc.1 hinc.2 hY
        · exact walk5_fn a0 n0 c0 F a1 n1 c1 S a3 n3 c3 X w h0 h1 h3 l0 l1 l3 hinc.1 hinc.2 hY
      | true =>
        by_cases hY : news X (F ++ S) = []
        · exact walk5_te a0 n0 c0 F a1 n1 c1 S a3 n3 c3 X w h0 h1 h3 l0 l1 l3 hinc.1 hinc.2 hY
        · exact walk5_tn a0 n0 c0 F a1 n1 c1 S a3 n3 c3 X w h0 h1 h3 l0 l1 l3 hinc.1 hinc.2 hY
    · exact walk5_not a0 n0 c0 F a1 n1 c1 hs a3 n3 c3 X w h0 h3 l0 l1 l3 hinc
  · exact walk5_long a0 n0 c0 a1 n1 c1 hs a3 n3 c3 w (Nat.le_trans h0.cap h0.max) (Nat.le_trans h1.cap h1.max) (Nat.le_trans h3.cap h3.max) hl

end Go.Proofs.Qxb6603397a

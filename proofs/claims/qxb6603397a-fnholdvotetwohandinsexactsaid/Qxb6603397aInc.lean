/-
  increasingU.
-/
import Derived.Test.Qxb6603397aBase
namespace Go.Proofs.Qxb6603397a
open Go.RowKit

set_option maxHeartbeats 400000 in
theorem inc19_none (a : Option Addr) (n c : Nat) (w : World) (h : n ≤ 1) :
    Calls Try.prog 19 #[.slice a n c] w fun e w' => e = .returned (.bool true) ∧ ∃ q, w' = w.drewN q := by
  go_enter Try.func19, Try.ntmps19
  go_wp2
  refine wp_loop_rounds 1 ?_
  rw [rounds_succ]
  go_wp2
  go_ret
  exact ⟨rfl, 0, rfl⟩

set_option maxHeartbeats 400000 in
theorem inc19_some (b off n c : Nat) (zs : List Int) (w : World) (hn : zs.length = n) (hm : n ≤ maxLen) (hc : ∀ j, j < n → w.cell? ⟨b, off + j, none⟩ = some (.int .u64 (zs.getD j 0))) :
    Calls Try.prog 19 #[.slice (some ⟨b, off, none⟩) n c] w fun e w' => e = .returned (.bool (incB zs)) ∧ ∃ q, w' = w.drewN q := by
  unfold maxLen at hm
  have HN := hide hn
  clear hn
  go_enter Try.func19, Try.ntmps19
  go_wp2
  go_loopw [3] (fun i wr => ∃ k q : Nat, 1 ≤ k ∧ i = .int .i64 k ∧ wr = w.drewN q ∧ (∀ j, j + 1 < k → j + 1 < n → zs.getD j 0 < zs.getD (j + 1) 0)) (fun i _ => n - (intOf i).toNat)
  case atStart => exact ⟨1, 0, by omega, rfl, rfl, fun j h => by omega⟩
  case round =>
    obtain ⟨k, q, hk, rfl, rfl, hinc⟩ := hrel
    have HI := hide hinc
    clear hinc
    by_cases hlt : k < n
    · have c1 := hc (k - 1) (by omega)
      have c2 := hc k hlt
      clear hc
      generalize hx : zs.getD (k - 1) 0 = x at c1
      generalize hy : zs.getD k 0 = y at c2
      have HX := hide hx
      have HY := hide hy
      clear hx hy
      have hk1 : ((k : Int) - 1).toNat = k - 1 := by omega
      go_wp2_with fail
      go_quiet (fail)
      go_wp2
      · -- not increasing here
        have hb : incB zs = false := incB_not (j := k - 1) (by rw [unhide HN]; omega) (by rw [Nat.sub_add_cancel hk, unhide HX, unhide HY]; assumption)
        go_ret
        exact ⟨by rw [hb]; rfl, _, World.drewN_drewN _ _ _⟩
      · go_roundw
        case rel =>
          refine ⟨k + 1, _, by omega, by go_num, rfl, fun j h1 h2 => ?_⟩
          by_cases e : j + 1 = k
          · have : j = k - 1 := by omega
            subst this
            rw [unhide HX, e, unhide HY]
            omega
          · exact unhide HI j (by omega) h2
        case measure => simp [intOf]; omega
    · clear hc
      have hb : incB zs = true := incB_of (fun j hj => unhide HI j (by rw [unhide HN] at hj; omega) (by rw [unhide HN] at hj; omega))
      go_wp2
      go_ret
      exact ⟨by rw [hb]; rfl, q, rfl⟩

theorem inc19 {B : Nat} {a : Option Addr} {n c : Nat} {zs : List Int} {w : World} (h : Sl B w a n c zs) :
    Calls Try.prog 19 #[.slice a n c] w fun e w' => e = .returned (.bool (incB zs)) ∧ ∃ q, w' = w.drewN q := by
  rcases h.cell with h0 | ⟨b, off, rfl, hlt, hc⟩
  · have hb : incB zs = true := incB_of (fun j hj => by rw [h.len] at hj; omega)
    rw [hb]
    exact inc19_none a n c w (by omega)
  · exact inc19_some b off n c zs w h.len (Nat.le_trans h.cap h.max) hc

end Go.Proofs.Qxb6603397a

/-
  slices.BinarySearch at []uint64: of a strictly increasing list it tells whether the number is there.
-/
import Derived.Test.Qxb6603397aClone
import Derived.Deep.LoopGhost
namespace Go.Proofs.Qxb6603397a
open Go.RowKit

theorem inc_le {zs : List Int} (h : incB zs = true) {i j : Nat} (hij : i ≤ j) (hj : j < zs.length) : zs.getD i 0 ≤ zs.getD j 0 := by
  unfold incB at h
  rw [decide_eq_true_iff] at h
  by_cases e : i = j
  · subst e; omega
  · have := List.pairwise_iff_getElem.1 h i j (by omega) hj (by omega)
    rw [List.getD, List.getD, List.getElem?_eq_getElem hj, List.getElem?_eq_getElem (show i < zs.length by omega)]
    simp
    omega

set_option maxHeartbeats 400000 in
theorem bs52_none (a : Option Addr) (c : Nat) (x : Int) (w : World) :
    Calls Try.prog 52 #[.slice a 0 c, .int .u64 x] w fun e w' => ∃ i : Int, e = .returned (.tuple #[.int .i64 i, .bool false]) ∧ w' = w := by
  go_enter Try.func52, Try.ntmps52
  go_wp2
  refine wp_loop_rounds 1 ?_
  rw [rounds_succ]
  go_wp2
  go_ret2
  exact ⟨_, rfl, rfl⟩

set_option maxHeartbeats 1000000 in
theorem bs52_some (b off n c : Nat) (zs : List Int) (x : Int) (w : World) (hn : zs.length = n) (hm : n < 4611686018427387904) (hs : incB zs = true) (hc : ∀ j, j < n → w.cell? ⟨b, off + j, none⟩ = some (.int .u64 (zs.getD j 0))) :
    Calls Try.prog 52 #[.slice (some ⟨b, off, none⟩) n c, .int .u64 x] w fun e w' => ∃ i : Int, e = .returned (.tuple #[.int .i64 i, .bool (inB zs x)]) ∧ w' = w := by
  have HN := hide (And.intro hn hs)
  clear hn hs
  go_enter Try.func52, Try.ntmps52
  go_wp2
  go_loop [7, 8] (fun s7 s8 => ∃ lo hi : Nat, s7 = .int .i64 lo ∧ s8 = .int .i64 hi ∧ lo ≤ hi ∧ hi ≤ n ∧ Hid ((∀ t, t < lo → zs.getD t 0 < x) ∧ (∀ t, hi ≤ t → t < n → x ≤ zs.getD t 0))) (fun s7 s8 => (intOf s8).toNat - (intOf s7).toNat)
  case atStart => exact ⟨0, n, rfl, rfl, Nat.zero_le _, Nat.le_refl _, hide ⟨fun t ht => absurd ht (Nat.not_lt_zero _), fun t h1 h2 => by omega⟩⟩
  case round =>
    obtain ⟨lo, hi, rfl, rfl, hlh, hin, HI⟩ := hrel
    by_cases hlt : lo < hi
    · have cm := hc ((lo + hi) / 2) (by omega)
      clear hc
      generalize hy : zs.getD ((lo + hi) / 2) 0 = y at cm
      have HY := hide hy
      clear hy
      by_cases hyx : y < x
      · go_wp2_with (go_at_call 55; refine (less55 _ _ _).mono ?_; rintro e w' ⟨rfl, rfl⟩)
        go_round
        case rel =>
          refine ⟨(lo + hi) / 2 + 1, hi, by go_num, rfl, by omega, hin, hide ⟨fun t ht => ?_, (unhide HI).2⟩⟩
          have := inc_le (unhide HN).2 (show t ≤ (lo + hi) / 2 by omega) (by rw [(unhide HN).1]; omega)
          rw [unhide HY] at this
          omega
        case measure => simp only [intOf]; omega
      · go_wp2_with (go_at_call 55; refine (less55 _ _ _).mono ?_; rintro e w' ⟨rfl, rfl⟩)
        go_round
        case rel =>
          refine ⟨lo, (lo + hi) / 2, rfl, by go_num, by omega, by omega, hide ⟨(unhide HI).1, fun t ht htn => ?_⟩⟩
          have := inc_le (unhide HN).2 ht (by rw [(unhide HN).1]; omega)
          rw [unhide HY] at this
          omega
        case measure => simp only [intOf]; omega
    · have : hi = lo := by omega
      subst this
      by_cases hlen : hi < n
      · have cl := hc hi hlen
        clear hc
        generalize hy : zs.getD hi 0 = y at cl
        have HY := hide hy
        clear hy
        by_cases hyx : y = x
        · subst hyx
          go_wp2_with (go_at_call 56; refine (nan56 _ _).mono ?_; rintro e w' ⟨rfl, rfl⟩)
          have hb : inB zs y = true := contains_hit (k := hi) (by rw [(unhide HN).1]; omega) (unhide HY)
          go_ret2
          exact ⟨⟨_, by rw [hb]; rfl⟩, rfl⟩
        · have hyx' : (y == x) = false := by rw [beq_eq_false_iff_ne]; exact hyx
          go_wp2_with (go_at_call 56; refine (nan56 _ _).mono ?_; rintro e w' ⟨rfl, rfl⟩)
          have hb : inB zs x = false := contains_miss (fun j hj => by
            rw [(unhide HN).1] at hj
            by_cases e : j < hi
            · have := (unhide HI).1 j e; omega
            · have h1 := inc_le (unhide HN).2 (show hi ≤ j by omega) (by rw [(unhide HN).1]; omega)
              have h2 := (unhide HI).2 hi (Nat.le_refl _) hlen
              rw [unhide HY] at h1 h2
              omega)
          go_ret2
          exact ⟨_, by rw [hb]; rfl, rfl⟩
      · clear hc
        go_wp2_with (go_at_call 56; refine (nan56 _ _).mono ?_; rintro e w' ⟨rfl, rfl⟩)
        have hb : inB zs x = false := contains_miss (fun j hj => by
          rw [(unhide HN).1] at hj
          have := (unhide HI).1 j (by omega); omega)
        go_ret2
        exact ⟨⟨_, by rw [hb]; rfl⟩, rfl⟩

theorem bs52 {B : Nat} {a : Option Addr} {n c : Nat} {zs : List Int} {w : World} (h : Sl B w a n c zs) (hm : n ≤ 140737488355328) (hs : incB zs = true) (x : Int) :
    Calls Try.prog 52 #[.slice a n c, .int .u64 x] w fun e w' => ∃ i : Int, e = .returned (.tuple #[.int .i64 i, .bool (inB zs x)]) ∧ w' = w := by
  rcases h.cell with h0 | ⟨b, off, rfl, hlt, hc⟩
  · subst h0
    rw [List.eq_nil_of_length_eq_zero h.len]
    exact bs52_none a c x w
  · exact bs52_some b off n c zs x w h.len (by omega) hs hc

end Go.Proofs.Qxb6603397a

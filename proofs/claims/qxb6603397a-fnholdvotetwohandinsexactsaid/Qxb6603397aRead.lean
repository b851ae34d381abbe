/-
  containsU, equalU.
-/
import Derived.Test.Qxb6603397aInc
namespace Go.Proofs.Qxb6603397a
open Go.RowKit

/-- Is x among the numbers? (Behind a name, so that the walk leaves it alone.) -/
def inB (zs : List Int) (x : Int) : Bool := zs.contains x

theorem inB_iff {zs : List Int} {x : Int} : inB zs x = true ↔ x ∈ zs := List.contains_iff_mem
theorem inB_not {zs : List Int} {x : Int} : inB zs x = false ↔ x ∉ zs := by
  rw [← inB_iff, Bool.not_eq_true]

theorem contains_hit {zs : List Int} {k : Nat} {x : Int} (hk : k < zs.length) (h : zs.getD k 0 = x) : inB zs x = true := by
  rw [inB_iff]
  rw [List.getD, List.getElem?_eq_getElem hk] at h
  simp at h
  exact h ▸ List.getElem_mem hk

theorem contains_miss {zs : List Int} {x : Int} (h : ∀ j, j < zs.length → zs.getD j 0 ≠ x) : inB zs x = false := by
  rw [Bool.eq_false_iff]
  intro hc
  rw [inB_iff] at hc
  obtain ⟨j, hj, he⟩ := List.getElem_of_mem hc
  refine h j hj ?_
  rw [List.getD, List.getElem?_eq_getElem hj]
  simpa using he

set_option maxHeartbeats 400000 in
theorem con21_none (a : Option Addr) (c : Nat) (x : Int) (w : World) :
    Calls Try.prog 21 #[.slice a 0 c, .int .u64 x] w fun e w' => e = .returned (.bool false) ∧ w' = w := by
  go_enter Try.func21, Try.ntmps21
  go_wp2
  refine wp_loop_rounds 1 ?_
  rw [rounds_succ]
  go_wp2
  go_ret
  exact ⟨rfl, rfl⟩

set_option maxHeartbeats 400000 in
theorem con21_some (b off n c : Nat) (zs : List Int) (x : Int) (w : World) (hn : zs.length = n) (hm : n ≤ maxLen) (hc : ∀ j, j < n → w.cell? ⟨b, off + j, none⟩ = some (.int .u64 (zs.getD j 0))) :
    Calls Try.prog 21 #[.slice (some ⟨b, off, none⟩) n c, .int .u64 x] w fun e w' => e = .returned (.bool (inB zs x)) ∧ w' = w := by
  unfold maxLen at hm
  have HN := hide hn
  clear hn
  go_enter Try.func21, Try.ntmps21
  go_wp2
  go_loop [5] (fun i => ∃ k : Nat, k ≤ n ∧ i = .int .i64 k ∧ Hid (∀ j, j < k → zs.getD j 0 ≠ x)) (fun i => n - (intOf i).toNat)
  case atStart => exact ⟨0, by omega, rfl, hide (fun j h => by omega)⟩
  case round =>
    obtain ⟨k, hk, rfl, HI⟩ := hrel
    by_cases hlt : k < n
    · have c1 := hc k hlt
      clear hc
      generalize hx : zs.getD k 0 = y at c1
      have HX := hide hx
      clear hx
      go_wp2
      · have hy : (y == x) = true := by assumption
        have hb : inB zs x = true := contains_hit (k := k) (by rw [unhide HN]; omega) (by rw [unhide HX]; simpa using hy)
        go_ret
        exact ⟨by rw [hb]; rfl, rfl⟩
      · have hy : (y == x) = false := by assumption
        go_round
        case rel =>
          refine ⟨k + 1, by omega, by go_num, hide (fun j hj => ?_)⟩
          by_cases e : j = k
          · subst e
            rw [unhide HX]
            simpa using hy
          · exact unhide HI j (by omega)
        case measure => simp [intOf]; omega
    · clear hc
      go_wp2
      have hb : inB zs x = false := contains_miss (fun j hj => unhide HI j (by rw [unhide HN] at hj; omega))
      go_ret
      exact ⟨by rw [hb]; rfl, rfl⟩

theorem con21 {B : Nat} {a : Option Addr} {n c : Nat} {zs : List Int} {w : World} (h : Sl B w a n c zs) (x : Int) :
    Calls Try.prog 21 #[.slice a n c, .int .u64 x] w fun e w' => e = .returned (.bool (inB zs x)) ∧ w' = w := by
  rcases h.cell with h0 | ⟨b, off, rfl, hlt, hc⟩
  · subst h0
    rw [List.eq_nil_of_length_eq_zero h.len]
    exact con21_none a c x w
  · exact con21_some b off n c zs x w h.len (Nat.le_trans h.cap h.max) hc

set_option maxHeartbeats 400000 in
theorem eq24_len (a a' : Option Addr) (n c n' c' : Nat) (w : World) (hne : n ≠ n') :
    Calls Try.prog 24 #[.slice a n c, .slice a' n' c'] w fun e w' => e = .returned (.bool false) ∧ ∃ q, w' = w.drewN q := by
  go_enter Try.func24, Try.ntmps24
  have hd : ((n : Int) != (n' : Int)) = true := by rw [bne_iff_ne]; omega
  go_wp2
  go_ret
  exact ⟨rfl, 0, rfl⟩

set_option maxHeartbeats 400000 in
theorem eq24_none (a a' : Option Addr) (c c' : Nat) (w : World) :
    Calls Try.prog 24 #[.slice a 0 c, .slice a' 0 c'] w fun e w' => e = .returned (.bool true) ∧ ∃ q, w' = w.drewN q := by
  go_enter Try.func24, Try.ntmps24
  go_wp2
  refine wp_loop_rounds 1 ?_
  rw [rounds_succ]
  go_wp2
  go_ret
  exact ⟨rfl, 0, rfl⟩

theorem eq_of_getD {xs ys : List Int} (hl : xs.length = ys.length) (h : ∀ j, j < xs.length → xs.getD j 0 = ys.getD j 0) : xs = ys := by
  apply List.ext_getElem hl
  intro j h1 h2
  have := h j h1
  rw [List.getD, List.getD, List.getElem?_eq_getElem h1, List.getElem?_eq_getElem h2] at this
  simpa using this

set_option maxHeartbeats 400000 in
theorem eq24_some (b off c b' off' c' n : Nat) (xs ys : List Int) (w : World) (hn : xs.length = n) (hn' : ys.length = n) (hm : n ≤ maxLen)
    (hc : ∀ j, j < n → w.cell? ⟨b, off + j, none⟩ = some (.int .u64 (xs.getD j 0))) (hc' : ∀ j, j < n → w.cell? ⟨b', off' + j, none⟩ = some (.int .u64 (ys.getD j 0))) :
    Calls Try.prog 24 #[.slice (some ⟨b, off, none⟩) n c, .slice (some ⟨b', off', none⟩) n c'] w fun e w' => e = .returned (.bool (xs == ys)) ∧ ∃ q, w' = w.drewN q := by
  unfold maxLen at hm
  have HN := hide (And.intro hn hn')
  clear hn hn'
  go_enter Try.func24, Try.ntmps24
  go_wp2
  go_loopw [5] (fun i wr => ∃ k q : Nat, k ≤ n ∧ i = .int .i64 k ∧ wr = w.drewN q ∧ Hid (∀ j, j < k → xs.getD j 0 = ys.getD j 0)) (fun i _ => n - (intOf i).toNat)
  case atStart => exact ⟨0, 0, by omega, rfl, rfl, hide (fun j h => by omega)⟩
  case round =>
    obtain ⟨k, q, hk, rfl, rfl, HI⟩ := hrel
    by_cases hlt : k < n
    · have c1 := hc k hlt
      have c2 := hc' k hlt
      clear hc hc'
      generalize hx : xs.getD k 0 = x at c1
      generalize hy : ys.getD k 0 = y at c2
      have HX := hide hx
      have HY := hide hy
      clear hx hy
      have hlt' : (k : Int) < (n : Int) := by omega
      go_wp2_with fail
      go_quiet (fail)
      go_wp2
      · have hxy : (x != y) = true := by assumption
        have hb : (xs == ys) = false := by
          rw [beq_eq_false_iff_ne]
          intro e
          rw [bne_iff_ne] at hxy
          exact hxy (by rw [← unhide HX, ← unhide HY, e])
        go_ret
        exact ⟨by rw [hb]; rfl, _, World.drewN_drewN _ _ _⟩
      · have hxy : (x != y) = false := by assumption
        go_roundw
        case rel =>
          refine ⟨k + 1, _, by omega, by go_num, rfl, hide (fun j hj => ?_)⟩
          by_cases e : j = k
          · subst e
            rw [unhide HX, unhide HY]
            simpa using hxy
          · exact unhide HI j (by omega)
        case measure => simp [intOf]; omega
    · clear hc hc'
      go_wp2
      have hb : (xs == ys) = true := by
        rw [beq_iff_eq]
        exact eq_of_getD (by rw [(unhide HN).1, (unhide HN).2]) (fun j hj => unhide HI j (by rw [(unhide HN).1] at hj; omega))
      go_ret
      exact ⟨by rw [hb]; rfl, q, rfl⟩

theorem eq24 {B B' : Nat} {a a' : Option Addr} {n c n' c' : Nat} {xs ys : List Int} {w : World} (h : Sl B w a n c xs) (h' : Sl B' w a' n' c' ys) :
    Calls Try.prog 24 #[.slice a n c, .slice a' n' c'] w fun e w' => e = .returned (.bool (xs == ys)) ∧ ∃ q, w' = w.drewN q := by
  by_cases hne : n = n'
  · subst hne
    rcases h.cell with h0 | ⟨b, off, rfl, hlt, hc⟩
    · subst h0
      rw [List.eq_nil_of_length_eq_zero h.len, List.eq_nil_of_length_eq_zero h'.len]
      exact eq24_none a a' c c' w
    · rcases h'.cell with h0 | ⟨b', off', rfl, hlt', hc'⟩
      · subst h0
        rw [List.eq_nil_of_length_eq_zero h.len, List.eq_nil_of_length_eq_zero h'.len]
        exact eq24_none _ a' c c' w
      · exact eq24_some b off c b' off' c' n xs ys w h.len h'.len (Nat.le_trans h.cap h.max) hc hc'
  · have : (xs == ys) = false := by
      rw [beq_eq_false_iff_ne]
      intro e
      exact hne (by rw [← h.len, ← h'.len, e])
    rw [this]
    exact eq24_len a a' n c n' c' w hne

end Go.Proofs.Qxb6603397a

/-
  countUnion; counting different numbers.
-/
import Derived.Test.Qxb6603397aAddW
namespace Go.Proofs.Qxb6603397a
open Go.RowKit Go.Maps

theorem inB_append (a b : List Int) (x : Int) : inB (a ++ b) x = (inB a x || inB b x) := by
  rw [Bool.eq_iff_iff, Bool.or_eq_true, inB_iff, inB_iff, inB_iff, List.mem_append]

theorem take_succ_getD (S : List Int) (k : Nat) (hk : k < S.length) : S.take (k + 1) = S.take k ++ [S.getD k 0] := by
  rw [List.take_add_one, List.getD, List.getElem?_eq_getElem hk]
  rfl

/-- New ones, each once, count each. -/
theorem dist_new (L : List Int) : ∀ (Y : List Int), (∀ y ∈ Y, y ∉ L) → Y.Pairwise (· ≠ ·) → dist (L ++ Y) = dist L + Y.length := by
  intro Y h1 h2
  have key : ∀ k, k ≤ Y.length → dist (L ++ Y.take k) = dist L + k := by
    intro k
    induction k with
    | zero => intro _; simp
    | succ k ih =>
      intro hk
      have hk' : k < Y.length := by omega
      have hx : Y.getD k 0 = Y[k] := by rw [List.getD, List.getElem?_eq_getElem hk']; rfl
      rw [take_succ_getD Y k hk', ← List.append_assoc, dist_snoc, ih (by omega), if_neg]
      · omega
      · rw [inB_iff, hx, List.mem_append]
        rintro (h | h)
        · exact h1 _ (List.getElem_mem hk') h
        · obtain ⟨j, hj, he⟩ := List.getElem_of_mem h
          rw [List.getElem_take] at he
          simp at hj
          exact List.pairwise_iff_getElem.1 h2 j k (by omega) hk' (by omega) he
  have := key Y.length (Nat.le_refl _)
  rw [List.take_length] at this
  exact this

theorem inc_ne {F : List Int} (h : incB F = true) : F.Pairwise (· ≠ ·) := by
  unfold incB at h
  rw [decide_eq_true_iff] at h
  exact h.imp (fun hab e => by omega)

theorem dist_inc {F : List Int} (h : incB F = true) : dist F = F.length := by
  have := dist_new [] F (fun _ _ h => by cases h) (inc_ne h)
  simpa [dist_nil] using this

theorem dist_news {X L : List Int} (h : incB X = true) : dist (L ++ news X L) = dist L + (news X L).length := by
  refine dist_new L _ (fun y hy => ?_) ?_
  · rw [news_eq, List.mem_filter] at hy
    exact inB_not.1 (by simpa using hy.2)
  · rw [news_eq]
    exact (inc_ne h).filter _

theorem Sl.take {B : Nat} {w : World} {a : Option Addr} {n c : Nat} {zs : List Int} (h : Sl B w a n c zs) {j : Nat} (hj : j ≤ n) : Sl B w a j c (zs.take j) := by
  refine ⟨by simp [h.len]; omega, Nat.le_trans hj h.cap, h.max, h.nil, fun x hx => h.u64 x (List.mem_of_mem_take hx), ?_⟩
  rcases h.cell with h0 | ⟨b, off, rfl, hlt, hc⟩
  · exact .inl (by omega)
  · refine .inr ⟨b, off, rfl, hlt, fun i hi => ?_⟩
    rw [hc i (by omega)]
    simp [hi]

theorem dist_le (L : List Int) : dist L ≤ L.length := by
  have key : ∀ k, k ≤ L.length → dist (L.take k) ≤ k := by
    intro k
    induction k with
    | zero => intro _; simp [dist_nil]
    | succ k ih =>
      intro hk
      have := ih (by omega)
      rw [take_succ_getD L k (by omega), dist_snoc]
      split <;> omega
  have := key L.length (Nat.le_refl _)
  rwa [List.take_length] at this

set_option maxHeartbeats 1000000 in
theorem count22 {B : Nat} {fa sa : Option Addr} {f s fc sc : Nat} {F S : List Int} {w : World} (h1 : Sl B w fa f fc F) (h2 : Sl B w sa s sc S) (hB : B ≤ w.heap.size) (hF : f ≤ 1000000) (hS : s ≤ 1000000) (hi : incB F = true) :
    Calls Try.prog 22 #[.slice fa f fc, .slice sa s sc] w fun e w' => e = .returned (.int .i64 (dist (F ++ S))) ∧ w' = w := by
  have H1 := hide h1
  have H2 := hide h2
  have aS := hide (h2.at hB)
  have lS := hide h2.len
  have lF := hide (And.intro h1.len (dist_inc hi))
  have hcs : s ≤ sc := h2.cap
  have hcm : sc ≤ maxLen := h2.max
  unfold maxLen at hcm
  clear h1 h2 hi
  go_enter Try.func22, Try.ntmps22
  go_wp2
  go_loop [5, 6] (fun n i => ∃ k : Nat, k ≤ s ∧ i = .int .i64 k ∧ n = .int .i64 (dist (F ++ S.take k))) (fun _ i => s - (intOf i).toNat)
  case atStart => exact ⟨0, Nat.zero_le _, rfl, by rw [List.take_zero, List.append_nil, (unhide lF).2, (unhide lF).1]⟩
  case round =>
    obtain ⟨k, hk, rfl, rfl⟩ := hrel
    have hd := dist_le (F ++ S.take k)
    have hdl : (F ++ S.take k).length ≤ 2000000 := by simp [(unhide lF).1]; omega
    have hd2 : dist (F ++ S.take k) ≤ 2000000 := by omega
    clear hd hdl
    by_cases hlt : k < s
    · obtain ⟨sb, soff, rfl, _, cS⟩ := (unhide aS) (by omega)
      have c1 := cS k hlt
      have e1 := hide (take_succ_getD S k (by rw [unhide lS]; exact hlt))
      have H3 := hide ((unhide H2).take hk)
      clear cS
      generalize hx : S.getD k 0 = x at *
      clear hx
      have hs := dist_snoc (F ++ S.take k) x
      rw [inB_append, List.append_assoc, ← unhide e1] at hs
      have HS := hide hs
      clear hs
      cases hf : inB F x with
      | true =>
        have HF := hide hf
        clear hf
        go_wp2_with (first | (go_at_call 21; refine (con21 (unhide H1) x).mono ?_; rintro e w' ⟨rfl, rfl⟩; rw [unhide HF]) | fail)
        go_round
        case rel => exact ⟨k + 1, by omega, by go_num, by rw [unhide HS, unhide HF]; rfl⟩
        case measure => simp [intOf]; omega
      | false =>
        have HF := hide hf
        clear hf
        go_wp2_with fail
        refine (con21 (unhide H1) x).mono ?_
        rintro e w' ⟨rfl, rfl⟩
        rw [unhide HF]
        go_wp2_with fail
        refine (con21 (unhide H3) x).mono ?_
        rintro e w'' ⟨rfl, rfl⟩
        cases hf2 : inB (S.take k) x with
        | true =>
          have HF2 := hide hf2
          clear hf2
          go_wp2
          go_round
          case rel => exact ⟨k + 1, by omega, by go_num, by rw [unhide HS, unhide HF, unhide HF2]; rfl⟩
          case measure => simp [intOf]; omega
        | false =>
          have HF2 := hide hf2
          clear hf2
          go_wp2
          go_round
          case rel => exact ⟨k + 1, by omega, by go_num, by rw [unhide HS, unhide HF, unhide HF2]; go_num⟩
          case measure => simp [intOf]; omega
    · have hks : k = s := by omega
      subst hks
      go_wp2
      go_ret
      exact ⟨by rw [List.take_of_length_le (by rw [unhide lS]; omega)]; rfl, rfl⟩

end Go.Proofs.Qxb6603397a

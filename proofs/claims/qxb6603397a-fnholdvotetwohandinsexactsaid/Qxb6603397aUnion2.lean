/-
  unionSizeU: the size of the union of two increasing lists, told from both sides.
-/
import Derived.Test.Qxb6603397aUnion
namespace Go.Proofs.Qxb6603397a
open Go.RowKit Go.Maps

theorem inc_lt {zs : List Int} (h : incB zs = true) {i j : Nat} (hij : i < j) (hj : j < zs.length) : zs.getD i 0 < zs.getD j 0 := by
  unfold incB at h
  rw [decide_eq_true_iff] at h
  have := List.pairwise_iff_getElem.1 h i j (by omega) hj hij
  rw [List.getD, List.getD, List.getElem?_eq_getElem hj, List.getElem?_eq_getElem (show i < zs.length by omega)]
  simpa using this

/-- b stands between two neighbours of A: it is not in A. -/
theorem not_in_gap {A : List Int} (hA : incB A = true) {i : Nat} {b : Int} (h1 : ∀ t, t < i → t < A.length → A.getD t 0 < b) (h2 : i < A.length → b < A.getD i 0) : inB A b = false := by
  refine contains_miss (fun t ht => ?_)
  by_cases e : t < i
  · have := h1 t e ht
    omega
  · have h3 := h2 (by omega)
    have h4 := inc_le hA (show i ≤ t by omega) ht
    omega

/-- The loop's relation. -/
structure Merge (A B : List Int) (i j : Nat) : Prop where
  same : i + (fr B A j).length = j + (fr A B i).length
  low : ∀ t, t < i → j < B.length → A.getD t 0 < B.getD j 0
  high : ∀ t, t < j → i < A.length → B.getD t 0 < A.getD i 0

theorem Merge.swap {A B : List Int} {i j : Nat} (h : Merge A B i j) : Merge B A j i := ⟨h.same.symm, h.high, h.low⟩

theorem fr_len (X L : List Int) (k : Nat) (hk : k < X.length) : (fr X L (k + 1)).length = (fr X L k).length + if inB L (X.getD k 0) = true then 0 else 1 := by
  rw [fr_succ X L k hk]
  split <;> simp

theorem Merge.left {A B : List Int} (hA : incB A = true) (hB : incB B = true) {i j : Nat} (h : Merge A B i j) (hi : i < A.length) (hj : j < B.length) (hlt : A.getD i 0 < B.getD j 0) : Merge A B (i + 1) j ∧ inB B (A.getD i 0) = false := by
  have hn : inB B (A.getD i 0) = false := not_in_gap hB (i := j) (fun t ht _ => h.high t ht hi) (fun _ => hlt)
  refine ⟨⟨?_, ?_, ?_⟩, hn⟩
  · rw [fr_len A B i hi, hn]
    have := h.same
    simp
    omega
  · intro t ht _
    by_cases e : t = i
    · subst e; exact hlt
    · exact h.low t (by omega) hj
  · intro t ht hi'
    have := h.high t ht hi
    have := inc_lt hA (show i < i + 1 by omega) hi'
    omega

theorem Merge.both {A B : List Int} (hA : incB A = true) (hB : incB B = true) {i j : Nat} (h : Merge A B i j) (hi : i < A.length) (hj : j < B.length) (he : A.getD i 0 = B.getD j 0) : Merge A B (i + 1) (j + 1) ∧ inB A (B.getD j 0) = true := by
  have h1 : inB A (B.getD j 0) = true := contains_hit (k := i) hi he
  have h2 : inB B (A.getD i 0) = true := contains_hit (k := j) hj he.symm
  refine ⟨⟨?_, ?_, ?_⟩, h1⟩
  · rw [fr_len A B i hi, fr_len B A j hj, h1, h2]
    have := h.same
    simp
    omega
  · intro t ht hj'
    have e1 := inc_lt hB (show j < j + 1 by omega) hj'
    by_cases e : t = i
    · subst e; omega
    · have := h.low t (by omega) hj
      omega
  · intro t ht hi'
    have e1 := inc_lt hA (show i < i + 1 by omega) hi'
    by_cases e : t = j
    · subst e; omega
    · have := h.high t (by omega) hi
      omega

/-- Behind A's end all that is left of B is new. -/
theorem Merge.rest {A B : List Int} (hA : incB A = true) (hB : incB B = true) {i j : Nat} (h : Merge A B i j) (hi : A.length ≤ i) : ∀ k, j + k ≤ B.length → (fr B A (j + k)).length = (fr B A j).length + k := by
  intro k
  induction k with
  | zero => intro _; rfl
  | succ k ih =>
    intro hk
    have hn : inB A (B.getD (j + k) 0) = false := not_in_gap hA (i := i) (fun t ht _ => by
      have h1 := h.low t ht (by omega)
      have h2 := inc_le hB (show j ≤ j + k by omega) (by omega)
      omega) (fun h => by omega)
    rw [← Nat.add_assoc, fr_len B A (j + k) (by omega), ih (by omega), hn]
    simp
    omega

/-- What the function answers: the union's size, told from both sides. -/
def Uni (A B : List Int) (u : Nat) : Prop := u = A.length + (news B A).length ∧ u = B.length + (news A B).length

theorem fr_stop (X L : List Int) (k : Nat) (h : X.length ≤ k) : fr X L k = news X L := by
  unfold news fr
  rw [List.take_of_length_le h, List.take_length]

theorem Merge.done {A B : List Int} (hA : incB A = true) (hB : incB B = true) {i j : Nat} (h : Merge A B i j) (hi : i ≤ A.length) (hj : j ≤ B.length) (he : A.length ≤ i ∨ B.length ≤ j) :
    Uni A B (i + (fr B A j).length + (A.length - i) + (B.length - j)) := by
  have hs := h.same
  rcases he with he | he
  · have e1 := h.rest hA hB he (B.length - j) (by omega)
    rw [show j + (B.length - j) = B.length by omega, fr_stop B A _ (Nat.le_refl _)] at e1
    rw [fr_stop A B i he] at hs
    constructor <;> omega
  · have e1 := h.swap.rest hB hA he (A.length - i) (by omega)
    rw [show i + (A.length - i) = A.length by omega, fr_stop A B _ (Nat.le_refl _)] at e1
    rw [fr_stop B A j he] at hs ⊢
    constructor <;> omega

set_option maxHeartbeats 2000000 in
theorem union41 {Ba Bb : Nat} {a b : Option Addr} {n c m d : Nat} {A B : List Int} {w : World} (h1 : Sl Ba w a n c A) (h2 : Sl Bb w b m d B) (ha : Ba ≤ w.heap.size) (hb : Bb ≤ w.heap.size) (hn : n ≤ 1000000) (hm : m ≤ 1000000) (iA : incB A = true) (iB : incB B = true) :
    Calls Try.prog 41 #[.slice a n c, .slice b m d] w fun e w' => ∃ u : Nat, e = .returned (.int .i64 u) ∧ Uni A B u ∧ ∃ q, w' = w.drewN q := by
  have aA := hide (h1.at ha)
  have aB := hide (h2.at hb)
  have L := hide (And.intro h1.len (And.intro h2.len (And.intro iA iB)))
  clear h1 h2 ha hb iA iB
  go_enter Try.func41, Try.ntmps41
  go_wp2
  go_loopw [5, 6, 7] (fun s5 s6 s7 wr => ∃ i j q : Nat, i ≤ n ∧ j ≤ m ∧ s5 = .int .i64 i ∧ s6 = .int .i64 j ∧ s7 = .int .i64 ((i + (fr B A j).length : Nat) : Int) ∧ wr = w.drewN q ∧ Hid (Merge A B i j)) (fun s5 s6 _ _ => (n - (intOf s5).toNat) + (m - (intOf s6).toNat))
  case atStart => exact ⟨0, 0, 0, by omega, by omega, rfl, rfl, rfl, rfl, hide ⟨rfl, fun t h => by omega, fun t h => by omega⟩⟩
  case round =>
    obtain ⟨i, j, q, hi, hj, rfl, rfl, rfl, rfl, HM⟩ := hrel
    have hfl := fr_le B A j
    generalize hfe : (fr B A j).length = f at *
    have HFE := hide hfe
    clear hfe
    by_cases hin : i < n
    · by_cases hjm : j < m
      · obtain ⟨ab, aoff, rfl, _, cA⟩ := (unhide aA) (by omega)
        obtain ⟨bb, boff, rfl, _, cB⟩ := (unhide aB) (by omega)
        have c1 := cA i hin
        have c2 := cB j hjm
        have hiA : i < A.length := by rw [(unhide L).1]; exact hin
        have hjB : j < B.length := by rw [(unhide L).2.1]; exact hjm
        have HL := hide (fun hlt => (unhide HM).left (unhide L).2.2.1 (unhide L).2.2.2 hiA hjB hlt)
        have HR := hide (fun hlt => (unhide HM).swap.left (unhide L).2.2.2 (unhide L).2.2.1 hjB hiA hlt)
        have HE := hide (fun he => (unhide HM).both (unhide L).2.2.1 (unhide L).2.2.2 hiA hjB he)
        have HF := hide (fr_len B A j hjB)
        clear cA cB hiA hjB
        have hin' : (i : Int) < (n : Int) := by omega
        have hjm' : (j : Int) < (m : Int) := by omega
        generalize A.getD i 0 = x at *
        generalize B.getD j 0 = y at *
        by_cases hxy : x < y
        · go_wp2_with fail
          go_quiet (fail)
          go_wp2
          go_roundw
          case rel => exact ⟨i + 1, j, _, by omega, hj, by go_num, rfl, by rw [unhide HFE]; go_num, rfl, hide (unhide HL hxy).1⟩
          case measure => simp [intOf]; omega
        · by_cases hyx : y < x
          · go_wp2_with fail
            go_quiet (fail)
            go_wp2_with fail
            go_quiet (fail)
            go_wp2
            go_roundw
            case rel => exact ⟨i, j + 1, _, hi, by omega, rfl, by go_num, by rw [unhide HF, (unhide HR hyx).2, unhide HFE]; go_num, rfl, hide (unhide HR hyx).1.swap⟩
            case measure => simp [intOf]; omega
          · have hxe : x = y := by omega
            go_wp2_with fail
            go_quiet (fail)
            go_wp2_with fail
            go_quiet (fail)
            go_wp2
            go_roundw
            case rel => exact ⟨i + 1, j + 1, _, by omega, by omega, by go_num, by go_num, by rw [unhide HF, (unhide HE hxe).2, unhide HFE]; go_num, rfl, hide (unhide HE hxe).1⟩
            case measure => simp [intOf]; omega
      · have hjm2 : m = j := by omega
        have HU := hide ((unhide HM).done (unhide L).2.2.1 (unhide L).2.2.2 (by rw [(unhide L).1]; exact hi) (by rw [(unhide L).2.1]; exact hj) (.inr (by rw [(unhide L).2.1]; omega)))
        rw [unhide HFE, (unhide L).1, (unhide L).2.1] at HU
        go_wp2
        go_ret
        refine ⟨_, ?_, unhide HU, q, rfl⟩
        go_num
    · have HU := hide ((unhide HM).done (unhide L).2.2.1 (unhide L).2.2.2 (by rw [(unhide L).1]; exact hi) (by rw [(unhide L).2.1]; exact hj) (.inl (by rw [(unhide L).1]; omega)))
      rw [unhide HFE, (unhide L).1, (unhide L).2.1] at HU
      go_wp2
      go_ret
      refine ⟨_, ?_, unhide HU, q, rfl⟩
      go_num

end Go.Proofs.Qxb6603397a

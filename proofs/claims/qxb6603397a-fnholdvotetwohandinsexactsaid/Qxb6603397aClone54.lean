/-
  slices.Clone at []uint64.
-/
import Derived.Test.Qxb6603397aData
import Derived.Test.Qxb6603397aWalk5H
namespace Go.Proofs.Qxb6603397a
open Go.RowKit Go.Maps

set_option maxHeartbeats 400000 in
theorem clone54_nil (w : World) : Calls Try.prog 54 #[.slice none 0 0] w fun e w' => e = .returned (.slice none 0 0) ∧ w' = w := by
  have qs := eqNil23
  go_enter Try.func54, Try.ntmps54
  go_wp2
  go_ret
  exact ⟨rfl, rfl⟩

set_option maxHeartbeats 400000 in
theorem clone54_some (ad : Addr) (n c : Nat) (zs : List Int) (w : World) (hl : zs.length = n) (hn : n ≤ 1000000) (hc : ∀ j u, (vals zs)[j]? = some u → w.cell? (ad.add j) = some u) (had : ∀ j, j < n → (ad.add j).block < w.heap.size) :
    Calls Try.prog 54 #[.slice (some ad) n c] w fun e w' => ∃ a' c', e = .returned (.slice a' n c') ∧ w'.ownsRow w.heap.size 39 1 (.slice a' n c') n (vals zs) ∧ Below w.heap.size w w' := by
  have qs := eqNil23
  obtain ⟨i0, hi, hz0, hz1, hz2⟩ := info_parts Try.info39
  have HL := hide hl
  have hown0 : (w.alloc (.cells #[] 39)).ownsRow w.heap.size 39 1 (.slice (some ⟨w.heap.size, 0, none⟩) 0 0) 0 [] := by
    have := World.ownsRow_lit (base := w.heap.size) (e := 39) (size := 1) w #[] 0 (Nat.le_refl _) (by unfold maxLen; omega) rfl
    simpa using this
  have hnews : ∀ j u, (vals zs)[j]? = some u → (w.alloc (.cells #[] 39)).cell? (ad.add j) = some u := by
    intro j u hj
    have hjn : j < n := by rw [← hl, ← vals_length]; exact (List.getElem?_eq_some_iff.1 hj).1
    have hb := (Below.refl w.heap.size w).alloc (Nat.le_refl _) (.cells #[] 39)
    rw [hb.cell (had j hjn)]
    exact hc j u hj
  have HNW := hide hnews
  clear hl hc had hnews
  go_enter Try.func54, Try.ntmps54
  go_wp2_with (at_builtin; refine wpList_append_own _ rfl _ _ 23 rfl w.heap.size 39 i0 (.int .u64 0) 1 8 Try.underlying23 hi hz0 hz1 hz2 rfl (by decide) _ _ _ rfl hown0 ad n c (vals zs) rfl (by rw [vals_length, unhide HL]; omega) (unhide HNW) (ints_oneCell .u64 zs) (by unfold maxLen; omega) (by omega) (by simp) ?_; intro v' w1 hown1 hgrow1 hnil1)
  obtain ⟨a', c', hv⟩ := ownsRow_shape hown1
  rw [Nat.zero_add] at hv
  subst hv
  go_ret
  exact ⟨a', c', rfl, by simpa using hown1, ((Below.refl _ _).alloc (Nat.le_refl _) _).grown hgrow1 (by simp) (fun j hj => by cases hj; exact Nat.le_refl _)⟩

theorem clone54 {B : Nat} {a : Option Addr} {n c : Nat} {zs : List Int} {w : World} (h : Sl B w a n c zs) (hB : B ≤ w.heap.size) (hbig : n ≤ 1000000) :
    Calls Try.prog 54 #[.slice a n c] w fun e w' => ∃ a' c', e = .returned (.slice a' n c') ∧ w'.ownsRow w.heap.size 39 1 (.slice a' n c') n (vals zs) ∧ Below w.heap.size w w' := by
  cases a with
  | none =>
    have h0 := h.nil rfl
    subst h0
    have hn : n = 0 := by have := h.cap; omega
    subst hn
    rw [List.eq_nil_of_length_eq_zero h.len]
    refine (clone54_nil w).mono fun e w' ⟨he, hw⟩ => ?_
    subst he hw
    exact ⟨none, 0, rfl, World.ownsRow_nil _ _ _ _, Below.refl _ _⟩
  | some ad =>
    refine clone54_some ad n c zs w h.len hbig (fun j u hj => ?_) (fun j hj => ?_)
    · have hjn : j < zs.length := by rw [← vals_length]; exact (List.getElem?_eq_some_iff.1 hj).1
      rcases h.cell with h0 | ⟨b, off, ha, hlt, hc⟩
      · rw [h.len] at hjn; omega
      · cases ha
        rw [Addr.add_mid, hc j (by rw [← h.len]; exact hjn), ← vals_get zs j hjn]
        exact hj
    · rcases h.cell with h0 | ⟨b, off, ha, hlt, hc⟩
      · omega
      · cases ha
        rw [Addr.add_mid]
        exact Nat.lt_of_lt_of_le hlt hB

end Go.Proofs.Qxb6603397a

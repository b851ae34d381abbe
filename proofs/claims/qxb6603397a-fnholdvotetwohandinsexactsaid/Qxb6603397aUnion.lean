/-
  ZZNewHolding, the probes of a holding, nonzero, unionSizeU.
-/
import Derived.Test.Qxb6603397aKey
namespace Go.Proofs.Qxb6603397a
open Go.RowKit Go.Maps

set_option maxHeartbeats 400000 in
theorem newHolding32 (w : World) : Calls Try.prog 32 #[] w fun e w' => e = .returned (.pointer (some ⟨w.heap.size + 2, 0, none⟩)) ∧
    Hold w' (w.heap.size + 2) w.heap.size (w.heap.size + 1) (.slice none 0 0) [] 0 (.map []) ∧ Below w.heap.size w w' ∧ w'.heap.size = w.heap.size + 3 := by
  have hmm := @run_makeMap Try.prog
  go_enter Try.func32, Try.ntmps32
  go_wp2
  go_ret
  have hb3 : (((w.alloc (.map #[] 0)).alloc (.map #[] 0)).alloc (.cells #[.slice none 0 0, .map (some w.heap.size), .map (some (w.heap.size + 1))] 80)).heap[w.heap.size + 2]? = some (.cells #[.slice none 0 0, .map (some w.heap.size), .map (some (w.heap.size + 1))] 80 (0, 0)) := heap3_2 w _ _ _
  refine ⟨rfl, ⟨?_, ?_, ?_, ?_, World.ownsRow_nil _ _ _ _, ?_, ?_, by omega, by omega, by omega⟩, (((Below.refl _ _).alloc (Nat.le_refl _) _).alloc (by simp) _).alloc (by simp; omega) _, by simp⟩
  · exact (cell_of_row _ _ 0 _ 80 (0, 0) hb3).trans rfl
  · exact frozen_of_row _ _ 0 _ 80 hb3
  · exact (cell_of_row _ _ 1 _ 80 (0, 0) hb3).trans rfl
  · exact (cell_of_row _ _ 2 _ 80 (0, 0) hb3).trans rfl
  · have := (World.ownsMap_made (H := Unit) (w.alloc (.map #[] 0)) Try.prog 69 ptrElem).alloc (.cells #[.slice none 0 0, .map (some w.heap.size), .map (some (w.heap.size + 1))] 80)
    rw [World.size_alloc] at this
    exact this
  · exact ((World.ownsMap_made (H := Unit) w Try.prog 59 ptrElem).alloc _).alloc _

section
variable {w : World} {hb bm vm : Nat} {iv : Value} {items : List (Nat × Value)} {N : Nat} {D : DataW Unit}

set_option maxHeartbeats 400000 in
theorem items35 (h : Hold w hb bm vm iv items N D) : Calls Try.prog 35 #[.pointer (some ⟨hb, 0, none⟩)] w fun e w' => e = .returned (.int .i64 items.length) ∧ w' = w := by
  obtain ⟨a, c, hv⟩ := ownsRow_shape h.rows
  subst hv
  have c0 := h.c0
  generalize items.length = n at *
  clear h
  go_enter Try.func35, Try.ntmps35
  go_wp2
  go_ret
  exact ⟨rfl, rfl⟩

set_option maxHeartbeats 400000 in
theorem voters37 (h : Hold w hb bm vm iv items N D) : Calls Try.prog 37 #[.pointer (some ⟨hb, 0, none⟩)] w fun e w' => e = .returned (.int .i64 (Maps.size D)) ∧ w' = w := by
  have c2 := h.c2
  have hown := h.vot
  clear h
  go_enter Try.func37, Try.ntmps37
  go_wp2_with (at_len; refine wpList_len_own _ rfl _ 77 rfl 69 37 Try.underlying77 _ vm _ _ rfl hown ?_)
  go_ret
  exact ⟨rfl, rfl⟩

set_option maxHeartbeats 400000 in
theorem blocks39 (h : Hold w hb bm vm iv items N D) : Calls Try.prog 39 #[.pointer (some ⟨hb, 0, none⟩)] w fun e w' => e = .returned (.int .i64 0) ∧ w' = w := by
  have c1 := h.c1
  have hown := h.blk
  clear h
  go_enter Try.func39, Try.ntmps39
  go_wp2_with (at_len; refine wpList_len_own _ rfl _ 76 rfl 59 88 Try.underlying76 _ bm _ _ rfl hown ?_)
  go_ret
  exact ⟨rfl, rfl⟩
end

set_option maxHeartbeats 400000 in
theorem nonzero42 (n : Int) (w : World) : Calls Try.prog 42 #[.int .i64 n] w fun e w' => e = .returned (.int .i64 (if 0 < n then 1 else 0)) ∧ w' = w := by
  by_cases h : 0 < n
  · rw [if_pos h]
    go_enter Try.func42, Try.ntmps42
    go_wp2
    go_ret
    exact ⟨rfl, rfl⟩
  · rw [if_neg h]
    go_enter Try.func42, Try.ntmps42
    go_wp2
    go_ret
    exact ⟨rfl, rfl⟩

end Go.Proofs.Qxb6603397a

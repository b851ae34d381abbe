/-
  The walk of FnHoldVoteTotalIsUnionEitherOrder.
-/
import Derived.Test.Qxb6603397aVst
import Derived.Test.Qxb6603397aWalk6
import Derived.Deep.RegionHeld3
namespace Go.Proofs.Qxb6603397a
open Go.RowKit Go.Maps

set_option maxRecDepth 100000 in
theorem bytes40 (a0 a1 : Option Addr) (n0 c0 n1 c1 : Nat) (sl ix se te : Int) (hd sr tr : Array Value) (fb : Bool) (w : World) (m0 : n0 ≤ maxLen) (m1 : n1 ≤ maxLen) :
    Calls Try.prog 40 #[.slice a0 n0 c0, .slice a1 n1 c1, .int .u64 sl, .int .u64 ix, .agg hd, .int .u64 se, .agg sr, .int .u64 te, .agg tr, .bool fb] w fun e w' => ∃ b : Bool, e = .returned (.bool b) ∧ Below w.heap.size w w' ∧ (n0 ≤ 4096 → n1 ≤ 4096 → b = true) := by
  unfold maxLen at m0 m1
  go_enter Try.func40, Try.ntmps40
  go_wp2
  all_goals go_ret
  all_goals refine ⟨_, rfl, ?_, ?_⟩
  all_goals first | exact (((Below.refl _ _).alloc (Nat.le_refl _) _).alloc (by simp) _).alloc (by simp; omega) _ | (intro _ _; rfl) | (intro _ _; omega)

set_option maxRecDepth 100000 in
set_option maxHeartbeats 1000000 in
theorem walk8_long (a0 a1 : Option Addr) (n0 c0 n1 c1 : Nat) (sl ix se te : Int) (hd sr tr : List Value) (hA : Arrs hd sr tr) (fb : Bool) (w : World) (m0 : n0 ≤ maxLen) (m1 : n1 ≤ maxLen) (hbig : ¬ (n0 ≤ 4096 ∧ n1 ≤ 4096)) :
    Calls Try.prog 8 #[.slice a0 n0 c0, .slice a1 n1 c1, .int .u64 sl, .int .u64 ix, .agg hd.toArray, .int .u64 se, .agg sr.toArray, .int .u64 te, .agg tr.toArray, .bool fb] w fun e w' => e = .returned (.bool true) ∧ Below w.heap.size w w' := by
  have H := hide (Sizes.mk' (va := none) (vn := 0) (vc := 0) (sl := sl) (ix := ix) (se := se) (te := te) hA)
  clear hA
  go_enter Try.func8, Try.ntmps8
  go_wp2_with (first
    | (with_reducible (show wpList _ _ _ ({ dst := _, op := Op.load 48 (Operand.tmp 14), type := _, pos := _, after := _, guard := _ } :: _) _ _); refine wpList_load_row rfl 48 _ rfl w.heap.size rfl 48 hd.toArray (0, 0) _ (heap3_0 _ _ _ _) Try.underlying48 rfl (unhide H).s1 ?_; go_frame)
    | (with_reducible (show wpList _ _ _ ({ dst := _, op := Op.load 48 (Operand.tmp 16), type := _, pos := _, after := _, guard := _ } :: _) _ _); refine wpList_load_row rfl 48 _ rfl (w.heap.size + 1) rfl 48 sr.toArray (0, 0) _ (heap3_1 _ _ _ _) Try.underlying48 rfl (unhide H).s2 ?_; go_frame)
    | (with_reducible (show wpList _ _ _ ({ dst := _, op := Op.load 48 (Operand.tmp 18), type := _, pos := _, after := _, guard := _ } :: _) _ _); refine wpList_load_row rfl 48 _ rfl (w.heap.size + 1 + 1) rfl 48 tr.toArray (0, 0) _ (heap3_2 _ _ _ _) Try.underlying48 rfl (unhide H).s3 ?_; go_frame))
  have hb0 : Below w.heap.size w (((w.alloc (.cells hd.toArray 48)).alloc (.cells sr.toArray 48)).alloc (.cells tr.toArray 48)) := (((Below.refl _ _).alloc (Nat.le_refl _) _).alloc (by simp) _).alloc (by simp; omega) _
  refine (bytes40 a0 a1 n0 c0 n1 c1 sl ix se te hd.toArray sr.toArray tr.toArray fb _ m0 m1).mono ?_
  rintro e x ⟨b, rfl, hbx, _⟩
  have HB := hide (hb0.trans (hbx.mono hb0.size))
  clear hb0 hbx
  unfold maxLen at m0 m1
  cases b with
  | false =>
    go_wp2
    go_ret
    exact ⟨rfl, unhide HB⟩
  | true =>
    by_cases h0 : n0 ≤ 4096
    · go_wp2
      go_ret
      exact ⟨rfl, unhide HB⟩
    · go_wp2
      go_ret
      exact ⟨rfl, unhide HB⟩

end Go.Proofs.Qxb6603397a

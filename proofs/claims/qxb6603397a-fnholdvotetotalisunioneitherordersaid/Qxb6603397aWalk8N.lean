/-
  The walk of FnHoldVoteTotalIsUnionEitherOrder on lists of which one does not increase; and the walk, whole.
-/
import Derived.Test.Qxb6603397aWalk8M
import Derived.Test.Qxb6603397aKey
namespace Go.Proofs.Qxb6603397a
open Go.RowKit Go.Maps

set_option maxRecDepth 100000 in
set_option maxHeartbeats 4000000 in
theorem walk8_not (a0 a1 : Option Addr) (n0 c0 n1 c1 : Nat) (A B : List Int) (sl ix se te : Int) (hd sr tr : List Value) (hA : Arrs hd sr tr) (fb : Bool) (w : World) (h0 : Sl w.heap.size w a0 n0 c0 A) (h1 : Sl w.heap.size w a1 n1 c1 B) (l0 : n0 ≤ 4096) (l1 : n1 ≤ 4096) (hnot : ¬ (incB A = true ∧ incB B = true)) :
    Calls Try.prog 8 #[.slice a0 n0 c0, .slice a1 n1 c1, .int .u64 sl, .int .u64 ix, .agg hd.toArray, .int .u64 se, .agg sr.toArray, .int .u64 te, .agg tr.toArray, .bool fb] w fun e w' => e = .returned (.bool true) ∧ Below w.heap.size w w' := by
  have H := hide (Sizes.mk' (va := none) (vn := 0) (vc := 0) (sl := sl) (ix := ix) (se := se) (te := te) hA)
  have HS := hide (And.intro h0 h1)
  have HN := hide hnot
  clear hA h0 h1 hnot
  go_enter Try.func8, Try.ntmps8
  go_wp2_with (first
    | (with_reducible (show wpList _ _ _ ({ dst := _, op := Op.load 48 (Operand.tmp 14), type := _, pos := _, after := _, guard := _ } :: _) _ _); refine wpList_load_row rfl 48 _ rfl w.heap.size rfl 48 hd.toArray (0, 0) _ (heap3_0 _ _ _ _) Try.underlying48 rfl (unhide H).s1 ?_; go_frame)
    | (with_reducible (show wpList _ _ _ ({ dst := _, op := Op.load 48 (Operand.tmp 16), type := _, pos := _, after := _, guard := _ } :: _) _ _); refine wpList_load_row rfl 48 _ rfl (w.heap.size + 1) rfl 48 sr.toArray (0, 0) _ (heap3_1 _ _ _ _) Try.underlying48 rfl (unhide H).s2 ?_; go_frame)
    | (with_reducible (show wpList _ _ _ ({ dst := _, op := Op.load 48 (Operand.tmp 18), type := _, pos := _, after := _, guard := _ } :: _) _ _); refine wpList_load_row rfl 48 _ rfl (w.heap.size + 1 + 1) rfl 48 tr.toArray (0, 0) _ (heap3_2 _ _ _ _) Try.underlying48 rfl (unhide H).s3 ?_; go_frame))
  have hb0 : Below w.heap.size w (((w.alloc (.cells hd.toArray 48)).alloc (.cells sr.toArray 48)).alloc (.cells tr.toArray 48)) := (((Below.refl _ _).alloc (Nat.le_refl _) _).alloc (by simp) _).alloc (by simp; omega) _
  refine (bytes40 a0 a1 n0 c0 n1 c1 sl ix se te hd.toArray sr.toArray tr.toArray fb _ (by unfold maxLen; omega) (by unfold maxLen; omega)).mono ?_
  rintro e x0 ⟨b, rfl, hbx, hb⟩
  have hb' := hb l0 l1
  clear hb
  subst hb'
  have B0 := hb0.trans (hbx.mono hb0.size)
  clear hb0 hbx
  go_wp2_with fail
  refine (inc19 ((unhide HS).1.below B0)).mono ?_
  rintro e x1 ⟨rfl, q1, hx1⟩
  have b1 : Below w.heap.size w x1 := B0.trans (by rw [hx1]; exact (below_of_drew q1).mono B0.size)
  clear hx1
  by_cases hF : incB A = true
  · have hX : incB B = false := by
      cases hx : incB B with
      | false => rfl
      | true => exact absurd ⟨hF, hx⟩ (unhide HN)
    rw [hF]
    go_wp2_with fail
    refine (inc19 ((unhide HS).2.below b1)).mono ?_
    rintro e x2 ⟨rfl, q2, hx2⟩
    have b2 := hide (b1.trans (by rw [hx2]; exact (below_of_drew q2).mono b1.size : Below w.heap.size x1 x2))
    clear hx2
    rw [hX]
    go_wp2
    go_ret
    exact ⟨rfl, unhide b2⟩
  · have hF' : incB A = false := by simpa using hF
    rw [hF']
    clear hF
    go_wp2
    go_ret
    exact ⟨rfl, b1⟩

theorem walk8 (a0 a1 : Option Addr) (n0 c0 n1 c1 : Nat) (A B : List Int) (sl ix se te : Int) (hd sr tr : List Value) (w1 : (Lit.int .u64 sl).wf = true) (w2 : (Lit.int .u64 ix).wf = true) (w3 : (Lit.int .u64 se).wf = true) (w4 : (Lit.int .u64 te).wf = true) (b1 : Bytes hd) (b2 : Bytes sr) (b3 : Bytes tr) (fb : Bool) (w : World) (h0 : Sl w.heap.size w a0 n0 c0 A) (h1 : Sl w.heap.size w a1 n1 c1 B) :
    Calls Try.prog 8 #[.slice a0 n0 c0, .slice a1 n1 c1, .int .u64 sl, .int .u64 ix, .agg hd.toArray, .int .u64 se, .agg sr.toArray, .int .u64 te, .agg tr.toArray, .bool fb] w fun e w' => e = .returned (.bool true) ∧ Below w.heap.size w w' := by
  have hA := arrs_of b1 b2 b3
  by_cases hl : n0 ≤ 4096 ∧ n1 ≤ 4096
  · obtain ⟨l0, l1⟩ := hl
    by_cases hinc : incB A = true ∧ incB B = true
    · obtain ⟨kl, hkl⟩ := key69 sl ix se te hd sr tr fb w1 w2 w3 w4 b1 b2 b3
      exact walk8_main a0 a1 n0 c0 n1 c1 A B sl ix se te hd sr tr hA fb w h0 h1 l0 l1 hinc.1 hinc.2 kl hkl
    · exact walk8_not a0 a1 n0 c0 n1 c1 A B sl ix se te hd sr tr hA fb w h0 h1 l0 l1 hinc
  · exact walk8_long a0 a1 n0 c0 n1 c1 sl ix se te hd sr tr hA fb w (Nat.le_trans h0.cap h0.max) (Nat.le_trans h1.cap h1.max) hl

end Go.Proofs.Qxb6603397a

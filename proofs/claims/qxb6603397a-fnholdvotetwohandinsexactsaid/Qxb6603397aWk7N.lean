/-
  The short ways of FnHoldVoteTwoHandInsExact; and its walk, whole.
-/
import Derived.Test.Qxb6603397aWk7M
namespace Go.Proofs.Qxb6603397a
open Go.RowKit Go.Maps

set_option maxRecDepth 100000 in
set_option maxHeartbeats 4000000 in
theorem walk7_long (a0 a1 : Option Addr) (n0 c0 n1 c1 : Nat) (sl sl2 ix se te : Int) (hd sr tr : List Value) (hA : Arrs hd sr tr) (fb fb2 : Bool) (w : World) (m0 : n0 ≤ maxLen) (m1 : n1 ≤ maxLen) (hbig : ¬ (n0 ≤ 4096 ∧ n1 ≤ 4096)) :
    Calls Try.prog 7 #[.slice a0 n0 c0, .slice a1 n1 c1, .int .u64 sl, .int .u64 sl2, .int .u64 ix, .agg hd.toArray, .int .u64 se, .agg sr.toArray, .int .u64 te, .agg tr.toArray, .bool fb, .bool fb2] w fun e w' => e = .returned (.bool true) ∧ Below w.heap.size w w' := by
  have H := hide (Sizes.mk' (va := none) (vn := 0) (vc := 0) (sl := sl) (ix := ix) (se := se) (te := te) hA)
  clear hA
  go_enter Try.func7, Try.ntmps7
  go_wp2_with (first
    | (with_reducible (show wpList _ _ _ ({ dst := _, op := Op.load 48 (Operand.tmp 17), type := _, pos := _, after := _, guard := _ } :: _) _ _); refine wpList_load_row rfl 48 _ rfl w.heap.size rfl 48 hd.toArray (0, 0) _ (heap3_0 _ _ _ _) Try.underlying48 rfl (unhide H).s1 ?_; go_frame)
    | (with_reducible (show wpList _ _ _ ({ dst := _, op := Op.load 48 (Operand.tmp 19), type := _, pos := _, after := _, guard := _ } :: _) _ _); refine wpList_load_row rfl 48 _ rfl (w.heap.size + 1) rfl 48 sr.toArray (0, 0) _ (heap3_1 _ _ _ _) Try.underlying48 rfl (unhide H).s2 ?_; go_frame)
    | (with_reducible (show wpList _ _ _ ({ dst := _, op := Op.load 48 (Operand.tmp 21), type := _, pos := _, after := _, guard := _ } :: _) _ _); refine wpList_load_row rfl 48 _ rfl (w.heap.size + 1 + 1) rfl 48 tr.toArray (0, 0) _ (heap3_2 _ _ _ _) Try.underlying48 rfl (unhide H).s3 ?_; go_frame))
  have hb0 : Below w.heap.size w (((w.alloc (.cells hd.toArray 48)).alloc (.cells sr.toArray 48)).alloc (.cells tr.toArray 48)) := (((Below.refl _ _).alloc (Nat.le_refl _) _).alloc (by simp) _).alloc (by simp; omega) _
  refine (bytes31 a0 a1 n0 c0 n1 c1 sl sl2 ix se te hd.toArray sr.toArray tr.toArray fb fb2 _ m0 m1).mono ?_
  rintro e x ⟨b, rfl, hbx, _⟩
  have HB := hide (hb0.trans (hbx.mono hb0.size))
  clear hb0 hbx
  unfold maxLen at m0 m1
  cases b with
  | false =>
    go_wp2
    go_ret
    exact ⟨rfl, unhide HB⟩
  | true =>
    by_cases h0 : n0 ≤ 4096
    · go_wp2
      go_ret
      exact ⟨rfl, unhide HB⟩
    · go_wp2
      go_ret
      exact ⟨rfl, unhide HB⟩

set_option maxRecDepth 100000 in
set_option maxHeartbeats 4000000 in
theorem walk7_not (a0 a1 : Option Addr) (n0 c0 n1 c1 : Nat) (A B : List Int) (sl sl2 ix se te : Int) (hd sr tr : List Value) (hA : Arrs hd sr tr) (fb fb2 : Bool) (w : World) (h0 : Sl w.heap.size w a0 n0 c0 A) (h1 : Sl w.heap.size w a1 n1 c1 B) (l0 : n0 ≤ 4096) (l1 : n1 ≤ 4096) (hnot : ¬ (incB A = true ∧ incB B = true)) :
    Calls Try.prog 7 #[.slice a0 n0 c0, .slice a1 n1 c1, .int .u64 sl, .int .u64 sl2, .int .u64 ix, .agg hd.toArray, .int .u64 se, .agg sr.toArray, .int .u64 te, .agg tr.toArray, .bool fb, .bool fb2] w fun e w' => e = .returned (.bool true) ∧ Below w.heap.size w w' := by
  have H := hide (Sizes.mk' (va := none) (vn := 0) (vc := 0) (sl := sl) (ix := ix) (se := se) (te := te) hA)
  have HS := hide (And.intro h0 h1)
  have HN := hide hnot
  clear hA h0 h1 hnot
  go_enter Try.func7, Try.ntmps7
  go_wp2_with (first
    | (with_reducible (show wpList _ _ _ ({ dst := _, op := Op.load 48 (Operand.tmp 17), type := _, pos := _, after := _, guard := _ } :: _) _ _); refine wpList_load_row rfl 48 _ rfl w.heap.size rfl 48 hd.toArray (0, 0) _ (heap3_0 _ _ _ _) Try.underlying48 rfl (unhide H).s1 ?_; go_frame)
    | (with_reducible (show wpList _ _ _ ({ dst := _, op := Op.load 48 (Operand.tmp 19), type := _, pos := _, after := _, guard := _ } :: _) _ _); refine wpList_load_row rfl 48 _ rfl (w.heap.size + 1) rfl 48 sr.toArray (0, 0) _ (heap3_1 _ _ _ _) Try.underlying48 rfl (unhide H).s2 ?_; go_frame)
    | (with_reducible (show wpList _ _ _ ({ dst := _, op := Op.load 48 (Operand.tmp 21), type := _, pos := _, after := _, guard := _ } :: _) _ _); refine wpList_load_row rfl 48 _ rfl (w.heap.size + 1 + 1) rfl 48 tr.toArray (0, 0) _ (heap3_2 _ _ _ _) Try.underlying48 rfl (unhide H).s3 ?_; go_frame))
  have hb0 : Below w.heap.size w (((w.alloc (.cells hd.toArray 48)).alloc (.cells sr.toArray 48)).alloc (.cells tr.toArray 48)) := (((Below.refl _ _).alloc (Nat.le_refl _) _).alloc (by simp) _).alloc (by simp; omega) _
  refine (bytes31 a0 a1 n0 c0 n1 c1 sl sl2 ix se te hd.toArray sr.toArray tr.toArray fb fb2 _ (by unfold maxLen; omega) (by unfold maxLen; omega)).mono ?_
  rintro e x0 ⟨b, rfl, hbx, hb⟩
  have hb' := hb l0 l1
  clear hb
  subst hb'
  have B0 := hb0.trans (hbx.mono hb0.size)
  clear hb0 hbx
  go_wp2_with fail
  refine (inc19 ((unhide HS).1.below B0)).mono ?_
  rintro e x1 ⟨rfl, q1, hx1⟩
  have b1 : Below w.heap.size w x1 := B0.trans (by rw [hx1]; exact (below_of_drew q1).mono B0.size)
  clear hx1
  by_cases hF : incB A = true
  · have hX : incB B = false := by
      cases hx : incB B with
      | false => rfl
      | true => exact absurd ⟨hF, hx⟩ (unhide HN)
    rw [hF]
    go_wp2_with fail
    refine (inc19 ((unhide HS).2.below b1)).mono ?_
    rintro e x2 ⟨rfl, q2, hx2⟩
    have b2 := hide (b1.trans (by rw [hx2]; exact (below_of_drew q2).mono b1.size : Below w.heap.size x1 x2))
    clear hx2
    rw [hX]
    go_wp2
    go_ret
    exact ⟨rfl, unhide b2⟩
  · have hF' : incB A = false := by simpa using hF
    rw [hF']
    clear hF
    go_wp2
    go_ret
    exact ⟨rfl, b1⟩

theorem key_apart {sl sl2 ix se te : Int} {hd sr tr : List Value} {fb fb2 : Bool} {kl1 kl2 : Lit} (h1 : keyOf Try.prog 69 (.agg (keyL sl ix se te hd sr tr fb).toArray) = some kl1) (h2 : keyOf Try.prog 69 (.agg (keyL sl2 ix se te hd sr tr fb2).toArray) = some kl2) (hne : ¬ (sl = sl2 ∧ fb = fb2)) : kl1 ≠ kl2 := by
  intro e
  subst e
  have := law69.inj h1 h2
  simp [keyL, datL] at this
  exact hne ⟨this.1, this.2⟩

theorem walk7 (a0 a1 : Option Addr) (n0 c0 n1 c1 : Nat) (A B : List Int) (sl sl2 ix se te : Int) (hd sr tr : List Value) (w1 : (Lit.int .u64 sl).wf = true) (w2 : (Lit.int .u64 sl2).wf = true) (w3 : (Lit.int .u64 ix).wf = true) (w4 : (Lit.int .u64 se).wf = true) (w5 : (Lit.int .u64 te).wf = true) (b1 : Bytes hd) (b2 : Bytes sr) (b3 : Bytes tr) (fb fb2 : Bool) (w : World) (h0 : Sl w.heap.size w a0 n0 c0 A) (h1 : Sl w.heap.size w a1 n1 c1 B) :
    Calls Try.prog 7 #[.slice a0 n0 c0, .slice a1 n1 c1, .int .u64 sl, .int .u64 sl2, .int .u64 ix, .agg hd.toArray, .int .u64 se, .agg sr.toArray, .int .u64 te, .agg tr.toArray, .bool fb, .bool fb2] w fun e w' => e = .returned (.bool true) ∧ Below w.heap.size w w' := by
  have hA := arrs_of b1 b2 b3
  by_cases hl : n0 ≤ 4096 ∧ n1 ≤ 4096
  · obtain ⟨l0, l1⟩ := hl
    by_cases hinc : incB A = true ∧ incB B = true
    · obtain ⟨kl1, hkl1⟩ := key69 sl ix se te hd sr tr fb w1 w3 w4 w5 b1 b2 b3
      obtain ⟨kl2, hkl2⟩ := key69 sl2 ix se te hd sr tr fb2 w2 w3 w4 w5 b1 b2 b3
      by_cases hs : sl = sl2 ∧ fb = fb2
      · exact walk7_main a0 a1 n0 c0 n1 c1 A B sl sl2 ix se te hd sr tr b1 b2 b3 fb fb2 w h0 h1 l0 l1 hinc.1 hinc.2 kl1 kl2 hkl1 hkl2 true (fun _ => hs) (fun h => by cases h) (fun h => by cases h)
      · exact walk7_main a0 a1 n0 c0 n1 c1 A B sl sl2 ix se te hd sr tr b1 b2 b3 fb fb2 w h0 h1 l0 l1 hinc.1 hinc.2 kl1 kl2 hkl1 hkl2 false (fun h => by cases h) (fun _ => hs) (fun _ => key_apart hkl1 hkl2 hs)
    · exact walk7_not a0 a1 n0 c0 n1 c1 A B sl sl2 ix se te hd sr tr hA fb fb2 w h0 h1 l0 l1 hinc
  · exact walk7_long a0 a1 n0 c0 n1 c1 sl sl2 ix se te hd sr tr hA fb fb2 w (Nat.le_trans h0.cap h0.max) (Nat.le_trans h1.cap h1.max) hl

end Go.Proofs.Qxb6603397a

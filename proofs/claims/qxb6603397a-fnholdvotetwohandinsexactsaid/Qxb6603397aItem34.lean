/-
  voteItemIs, walked.
-/
import Derived.Test.Qxb6603397aItem
import Derived.Test.Qxb6603397aBox
import Derived.Maps.RangeWalk
namespace Go.Proofs.Qxb6603397a
open Go.RowKit Go.Maps

/-- A stop on a walk. -/
def Halt (p : Prop) : Prop := p
theorem Halt.out {p : Prop} (h : Halt p) : p := h
theorem Halt.mk {p : Prop} (h : p) : Halt p := h

set_option linter.unusedSimpArgs false in
set_option maxHeartbeats 8000000 in
set_option maxRecDepth 100000 in
theorem item34 {w : World} {hb vm N : Nat} {D : DataW Unit} {g n c k vb : Nat} {ga : Option Addr} {m gc : Nat} {Y : List Int} {sl ix se te : Int} {hd sr tr : List Value} {fb : Bool} {kl : Lit} (h : ItemOk w hb vm N D g n c k vb ga m gc Y sl ix se te hd sr tr fb kl)
    (b1 : Bytes hd) (b2 : Bytes sr) (b3 : Bytes tr) {p : Option Addr} {m' pc : Nat} (hp : Sl w.heap.size w p m' pc Y) :
    Calls Try.prog 34 #[.pointer (some ⟨hb, 0, none⟩), .int .i64 k, .slice p m' pc, .int .u64 sl, .int .u64 ix, .agg hd.toArray, .int .u64 se, .agg sr.toArray, .int .u64 te, .agg tr.toArray, .bool fb] w fun e w' => e = .returned (.bool true) ∧ Below w.heap.size w w' := by
  have HA := hide (arrs_of b1 b2 b3)
  have q1 : ∀ w, (binOp .eql 48 (.agg hd.toArray) (.agg hd.toArray)).run Try.prog w = .ok (.bool true) w := fun w => eqBytes48 b1 w
  have q2 : ∀ w, (binOp .eql 48 (.agg sr.toArray) (.agg sr.toArray)).run Try.prog w = .ok (.bool true) w := fun w => eqBytes48 b2 w
  have q3 : ∀ w, (binOp .eql 48 (.agg tr.toArray) (.agg tr.toArray)).run Try.prog w = .ok (.bool true) w := fun w => eqBytes48 b3 w
  have HH := hide (And.intro h hp)
  clear h hp b1 b2 b3
  go_enter Try.func34, Try.ntmps34
  go_wp2_with fail
  have hb0 : Below w.heap.size w (((w.alloc (.cells hd.toArray 48)).alloc (.cells sr.toArray 48)).alloc (.cells tr.toArray 48)) := (((Below.refl _ _).alloc (Nat.le_refl _) _).alloc (by simp) _).alloc (by simp; omega) _
  have hbx : Below (w.heap.size + 3) (((w.alloc (.cells hd.toArray 48)).alloc (.cells sr.toArray 48)).alloc (.cells tr.toArray 48)) (((w.alloc (.cells hd.toArray 48)).alloc (.cells sr.toArray 48)).alloc (.cells tr.toArray 48)) := Below.refl _ _
  have hB0 := box_facts w hd sr tr
  have hsz : (((w.alloc (.cells hd.toArray 48)).alloc (.cells sr.toArray 48)).alloc (.cells tr.toArray 48)).heap.size = w.heap.size + 3 := by simp
  generalize hx0 : (((w.alloc (.cells hd.toArray 48)).alloc (.cells sr.toArray 48)).alloc (.cells tr.toArray 48)) = x0 at *
  clear hx0 hbx
  have hX0 : Box x0 w.heap.size hd sr tr := hB0
  clear hB0
  refine (isVote47 ((unhide HH).1.below hb0).item).mono ?_
  rintro e x1 ⟨rfl, h1⟩
  have B1 := hb0.trans (h1.mono hb0.size)
  have X1 := hX0.below h1 (by omega)
  have S1 := h1.size
  clear hb0 hX0 h1
  go_wp2_with fail
  have I1 := (unhide HH).1.below B1
  refine (voterOf48 I1.item I1.c2 I1.vot I1.cells (keyL_length (unhide HA)) I1.key I1.at' I1.has).mono ?_
  rintro e x2 ⟨rfl, h2⟩
  have B2 := B1.trans (h2.mono B1.size)
  have X2 := X1.below h2 (by omega)
  have S2 := h2.size
  clear B1 X1 I1 h2
  go_wp2_with fail
  have I2 := (unhide HH).1.below B2
  refine (validators49 I2.item).mono ?_
  rintro e x2 ⟨rfl, rfl⟩
  go_wp2_with fail
  refine (eq24 I2.list ((unhide HH).2.below B2)).mono ?_
  rintro e x3 ⟨rfl, q, hx3⟩
  have h3 : Below x2.heap.size x2 x3 := by rw [hx3]; exact below_of_drew q
  have B3 := B2.trans (h3.mono B2.size)
  have X3 := X2.below h3 (by omega)
  have S3 := h3.size
  clear B2 X2 I2 h3 hx3
  rw [beq_self_eq_true]
  go_wp2_with fail
  have I3 := (unhide HH).1.below B3
  refine (itemVote50 I3.item sl ix se te hd sr tr fb (unhide HA) I3.cells (World.block_lt_of_cell? x3 _ (I3.cells 0 _ rfl)) (World.block_lt_of_cell? x3 _ I3.item.c0) (World.block_lt_of_cell? x3 _ I3.item.i0)).mono ?_
  rintro e x4 ⟨rfl, h4⟩
  have B4 := hide (B3.trans (h4.mono B3.size))
  have X4 := hide (X3.below h4 (by omega))
  have S4 : w.heap.size + 3 ≤ x4.heap.size := by have := h4.size; omega
  clear B3 X3 I3 h4 S1 S2 S3 hsz
  have hn0 := @heap3_0
  go_wp2_with (with_reducible (show wpList _ _ _ ({ dst := _, op := Op.store 48 (Operand.tmp 25) _, type := _, pos := _, after := _, guard := _ } :: _) _ _); refine Halt.out ?_)
  refine Halt.mk ?_
  refine wpList_store_any rfl 48 _ _ rfl x4.heap.size hd.toArray rfl rfl 48 _ (heap3_0 x4 _ _ _) (by rw [i48]; simp [(unhide HA).l1]) (by simp [(unhide HA).l1]) (all_one (unhide HA).c1) ?_
  intro y1 ky1 sy1 by1
  have by1b := (ky1.block (x4.heap.size + 1) (by simp only [World.size_alloc]; omega) (by omega)).trans (heap3_1 x4 (.cells #[.int .u8 0, .int .u8 0, .int .u8 0, .int .u8 0, .int .u8 0, .int .u8 0, .int .u8 0, .int .u8 0, .int .u8 0, .int .u8 0, .int .u8 0, .int .u8 0, .int .u8 0, .int .u8 0, .int .u8 0, .int .u8 0, .int .u8 0, .int .u8 0, .int .u8 0, .int .u8 0, .int .u8 0, .int .u8 0, .int .u8 0, .int .u8 0, .int .u8 0, .int .u8 0, .int .u8 0, .int .u8 0, .int .u8 0, .int .u8 0, .int .u8 0, .int .u8 0] 48) (.cells #[.int .u8 0, .int .u8 0, .int .u8 0, .int .u8 0, .int .u8 0, .int .u8 0, .int .u8 0, .int .u8 0, .int .u8 0, .int .u8 0, .int .u8 0, .int .u8 0, .int .u8 0, .int .u8 0, .int .u8 0, .int .u8 0, .int .u8 0, .int .u8 0, .int .u8 0, .int .u8 0, .int .u8 0, .int .u8 0, .int .u8 0, .int .u8 0, .int .u8 0, .int .u8 0, .int .u8 0, .int .u8 0, .int .u8 0, .int .u8 0, .int .u8 0, .int .u8 0] 48) (.cells #[.int .u8 0, .int .u8 0, .int .u8 0, .int .u8 0, .int .u8 0, .int .u8 0, .int .u8 0, .int .u8 0, .int .u8 0, .int .u8 0, .int .u8 0, .int .u8 0, .int .u8 0, .int .u8 0, .int .u8 0, .int .u8 0, .int .u8 0, .int .u8 0, .int .u8 0, .int .u8 0, .int .u8 0, .int .u8 0, .int .u8 0, .int .u8 0, .int .u8 0, .int .u8 0, .int .u8 0, .int .u8 0, .int .u8 0, .int .u8 0, .int .u8 0, .int .u8 0] 48))
  have by1c := (ky1.block (x4.heap.size + 1 + 1) (by simp only [World.size_alloc]; omega) (by omega)).trans (heap3_2 x4 (.cells #[.int .u8 0, .int .u8 0, .int .u8 0, .int .u8 0, .int .u8 0, .int .u8 0, .int .u8 0, .int .u8 0, .int .u8 0, .int .u8 0, .int .u8 0, .int .u8 0, .int .u8 0, .int .u8 0, .int .u8 0, .int .u8 0, .int .u8 0, .int .u8 0, .int .u8 0, .int .u8 0, .int .u8 0, .int .u8 0, .int .u8 0, .int .u8 0, .int .u8 0, .int .u8 0, .int .u8 0, .int .u8 0, .int .u8 0, .int .u8 0, .int .u8 0, .int .u8 0] 48) (.cells #[.int .u8 0, .int .u8 0, .int .u8 0, .int .u8 0, .int .u8 0, .int .u8 0, .int .u8 0, .int .u8 0, .int .u8 0, .int .u8 0, .int .u8 0, .int .u8 0, .int .u8 0, .int .u8 0, .int .u8 0, .int .u8 0, .int .u8 0, .int .u8 0, .int .u8 0, .int .u8 0, .int .u8 0, .int .u8 0, .int .u8 0, .int .u8 0, .int .u8 0, .int .u8 0, .int .u8 0, .int .u8 0, .int .u8 0, .int .u8 0, .int .u8 0, .int .u8 0] 48) (.cells #[.int .u8 0, .int .u8 0, .int .u8 0, .int .u8 0, .int .u8 0, .int .u8 0, .int .u8 0, .int .u8 0, .int .u8 0, .int .u8 0, .int .u8 0, .int .u8 0, .int .u8 0, .int .u8 0, .int .u8 0, .int .u8 0, .int .u8 0, .int .u8 0, .int .u8 0, .int .u8 0, .int .u8 0, .int .u8 0, .int .u8 0, .int .u8 0, .int .u8 0, .int .u8 0, .int .u8 0, .int .u8 0, .int .u8 0, .int .u8 0, .int .u8 0, .int .u8 0] 48))
  have sz1 : y1.heap.size = x4.heap.size + 3 := by simp only [World.size_alloc] at sy1; omega
  have bel1 : Below x4.heap.size x4 y1 := ((((Below.refl x4.heap.size x4).alloc (Nat.le_refl _) _).alloc (by simp) _).alloc (by simp; omega) _).trans (ky1.below (by simp only [World.size_alloc]; omega) (by intro i hi; omega))
  clear ky1 sy1
  go_frame
  go_wp2_with (with_reducible (show wpList _ _ _ ({ dst := _, op := Op.store 48 (Operand.tmp 27) _, type := _, pos := _, after := _, guard := _ } :: _) _ _); refine Halt.out ?_)
  refine Halt.mk ?_
  refine wpList_store_any rfl 48 _ _ rfl (x4.heap.size + 1) sr.toArray rfl rfl 48 _ by1b (by rw [i48]; simp [(unhide HA).l2]) (by simp [(unhide HA).l2]) (all_one (unhide HA).c2) ?_
  intro y2 ky2 sy2 by2
  have by2a := (ky2.block (x4.heap.size) (by omega) (by omega)).trans by1
  have by2c := (ky2.block (x4.heap.size + 1 + 1) (by omega) (by omega)).trans by1c
  have bel2 := bel1.trans (ky2.below (B := x4.heap.size) (by omega) (by intro i hi; omega))
  clear ky2 by1 by1b by1c bel1
  go_frame
  go_wp2_with (with_reducible (show wpList _ _ _ ({ dst := _, op := Op.store 48 (Operand.tmp 29) _, type := _, pos := _, after := _, guard := _ } :: _) _ _); refine Halt.out ?_)
  refine Halt.mk ?_
  refine wpList_store_any rfl 48 _ _ rfl (x4.heap.size + 1 + 1) tr.toArray rfl rfl 48 _ by2c (by rw [i48]; simp [(unhide HA).l3]) (by simp [(unhide HA).l3]) (all_one (unhide HA).c3) ?_
  intro y3 ky3 sy3 by3
  have by3a := (ky3.block (x4.heap.size) (by omega) (by omega)).trans by2a
  have by3b := (ky3.block (x4.heap.size + 1) (by omega) (by omega)).trans by2
  have bel3 := bel2.trans (ky3.below (B := x4.heap.size) (by omega) (by intro i hi; omega))
  have X3 := hide ((unhide X4).below bel3 (by omega))
  have R3 := hide (And.intro (range_of by3a 0 hd (fun j v h => by simpa using h)) (And.intro (range_of by3b 0 sr (fun j v h => by simpa using h)) (range_of by3 0 tr (fun j v h => by simpa using h))))
  have BE := hide ((unhide B4).trans (bel3.mono (by omega)))
  clear ky3 by2 by2a by2c bel2 by3 by3a by3b bel3 X4 B4
  go_frame
  go_wp2_with (with_reducible (show wpList _ _ _ ({ dst := _, op := Op.load 48 (Operand.tmp 25), type := _, pos := _, after := _, guard := _ } :: _) _ _); refine Halt.out ?_)
  refine Halt.mk ?_
  refine wpList_load_want (by rfl) 48 _ rfl x4.heap.size 0 rfl hd _ (unhide R3).1 Try.underlying48 rfl (by rw [i48, (unhide HA).l1]) ?_
  go_frame
  go_wp2_with (with_reducible (show wpList _ _ _ ({ dst := _, op := Op.load 48 (Operand.tmp 16), type := _, pos := _, after := _, guard := _ } :: _) _ _); refine Halt.out ?_)
  refine Halt.mk ?_
  refine wpList_load_want (by rfl) 48 _ rfl w.heap.size 0 rfl hd _ (unhide X3).1 Try.underlying48 rfl (by rw [i48, (unhide HA).l1]) ?_
  go_frame
  go_wp2_with (with_reducible (show wpList _ _ _ ({ dst := _, op := Op.load 48 (Operand.tmp 27), type := _, pos := _, after := _, guard := _ } :: _) _ _); refine Halt.out ?_)
  refine Halt.mk ?_
  refine wpList_load_want (by rfl) 48 _ rfl (x4.heap.size + 1) 0 rfl sr _ (unhide R3).2.1 Try.underlying48 rfl (by rw [i48, (unhide HA).l2]) ?_
  go_frame
  go_wp2_with (with_reducible (show wpList _ _ _ ({ dst := _, op := Op.load 48 (Operand.tmp 18), type := _, pos := _, after := _, guard := _ } :: _) _ _); refine Halt.out ?_)
  refine Halt.mk ?_
  refine wpList_load_want (by rfl) 48 _ rfl (w.heap.size + 1) 0 rfl sr _ (unhide X3).2.1 Try.underlying48 rfl (by rw [i48, (unhide HA).l2]) ?_
  go_frame
  go_wp2_with (with_reducible (show wpList _ _ _ ({ dst := _, op := Op.load 48 (Operand.tmp 29), type := _, pos := _, after := _, guard := _ } :: _) _ _); refine Halt.out ?_)
  refine Halt.mk ?_
  refine wpList_load_want (by rfl) 48 _ rfl (x4.heap.size + 1 + 1) 0 rfl tr _ (unhide R3).2.2 Try.underlying48 rfl (by rw [i48, (unhide HA).l3]) ?_
  go_frame
  go_wp2_with (with_reducible (show wpList _ _ _ ({ dst := _, op := Op.load 48 (Operand.tmp 20), type := _, pos := _, after := _, guard := _ } :: _) _ _); refine Halt.out ?_)
  refine Halt.mk ?_
  refine wpList_load_want (by rfl) 48 _ rfl (w.heap.size + 1 + 1) 0 rfl tr _ (unhide X3).2.2 Try.underlying48 rfl (by rw [i48, (unhide HA).l3]) ?_
  go_frame
  go_wp2_with fail
  go_ret
  exact ⟨rfl, unhide BE⟩

end Go.Proofs.Qxb6603397a

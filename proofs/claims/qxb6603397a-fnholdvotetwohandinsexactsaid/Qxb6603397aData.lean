/-
  (Attestation).data.
-/
import Derived.Test.Qxb6603397aVote
namespace Go.Proofs.Qxb6603397a
open Go.RowKit Go.Maps

theorem range_of {w : World} {g : Nat} {C : List Value} {t : TypeId} (hb : w.heap[g]? = some (.cells C.toArray t (0, 0))) (o : Nat) (xs : List Value) (h : ∀ j v, xs[j]? = some v → C[o + j]? = some v) : w.rangeAt g o xs := by
  intro j v hj
  rw [cell_of_row w g (o + j) _ t (0, 0) hb]
  simpa using h j v hj

theorem mid_get {a b c : List Value} {o : Nat} (ho : a.length = o) (j : Nat) (v : Value) (h : b[j]? = some v) : (a ++ (b ++ c))[o + j]? = some v := by
  subst ho
  rw [List.getElem?_append_right (by omega), Nat.add_sub_cancel_left]
  have hj : j < b.length := (List.getElem?_eq_some_iff.1 h).1
  rw [List.getElem?_append_left hj]
  exact h

/-- What the walk of data is told. -/
structure DataFacts (v : Value) (sl ix se te : Int) (hd sr tr : List Value) (w : World) : Prop where
  c1 : (attL v sl ix se te hd sr tr).toArray[1]? = some (.int .u64 sl)
  c2 : (attL v sl ix se te hd sr tr).toArray[2]? = some (.int .u64 ix)
  r3 : ((w.alloc (.cells (attL v sl ix se te hd sr tr).toArray 82)).alloc (.cells Try.zeroCells67 67)).rangeAt w.heap.size 3 hd
  r35 : ((w.alloc (.cells (attL v sl ix se te hd sr tr).toArray 82)).alloc (.cells Try.zeroCells67 67)).rangeAt w.heap.size 35 (cpL se sr)
  r68 : ((w.alloc (.cells (attL v sl ix se te hd sr tr).toArray 82)).alloc (.cells Try.zeroCells67 67)).rangeAt w.heap.size 68 (cpL te tr)
  s59 : (Try.prog.info? 59).map (·.size) = some hd.length
  s61 : (Try.prog.info? 61).map (·.size) = some (cpL se sr).length
  s61' : (Try.prog.info? 61).map (·.size) = some (cpL te tr).length
  s67 : (Try.prog.info? 67).map (·.size) = some (datL sl ix se te hd sr tr).toArray.size
  z67 : Try.zeroCells67.size = (datL sl ix se te hd sr tr).toArray.size
  o67 : (datL sl ix se te hd sr tr).toArray.all (·.oneCell') = true
  arr : Arrs hd sr tr

theorem DataFacts.mk' {v : Value} {sl ix se te : Int} {hd sr tr : List Value} (w : World) (hA : Arrs hd sr tr) : DataFacts v sl ix se te hd sr tr w := by
  have hb : ((w.alloc (.cells (attL v sl ix se te hd sr tr).toArray 82)).alloc (.cells Try.zeroCells67 67)).heap[w.heap.size]? = some (.cells (attL v sl ix se te hd sr tr).toArray 82 (0, 0)) := by
    rw [Below.heap_alloc _ _ _ (by simp)]
    exact heap_alloc_new w _
  refine ⟨by simp [attL, datL], by simp [attL, datL], range_of hb 3 hd ?_, range_of hb 35 (cpL se sr) ?_, range_of hb 68 (cpL te tr) ?_, by rw [i59, hA.l1], by rw [i61, cpL_length, hA.l2], by rw [i61, cpL_length, hA.l3], by rw [i67]; simp [datL_length hA.l1 hA.l2 hA.l3], by rw [zero67_size]; simp [datL_length hA.l1 hA.l2 hA.l3], all_one (datL_one hA), hA⟩
  · intro j x hj
    exact mid_get (a := [v, .int .u64 sl, .int .u64 ix]) (c := cpL se sr ++ cpL te tr) rfl j x hj
  · intro j x hj
    have := mid_get (a := [v, .int .u64 sl, .int .u64 ix] ++ hd) (b := cpL se sr) (c := cpL te tr) (o := 35) (by simp [hA.l1]) j x hj
    simpa [attL, datL] using this
  · intro j x hj
    have := mid_get (a := [v, .int .u64 sl, .int .u64 ix] ++ hd ++ cpL se sr) (b := cpL te tr) (c := []) (o := 68) (by simp [hA.l1, cpL, hA.l2]) j x hj
    simpa [attL, datL] using this

set_option maxRecDepth 100000 in
set_option maxHeartbeats 1000000 in
theorem data53 (v : Value) (sl ix se te : Int) (hd sr tr : List Value) (hA : Arrs hd sr tr) (w : World) :
    Calls Try.prog 53 #[.agg (attL v sl ix se te hd sr tr).toArray] w fun e w' => e = .returned (.agg (datL sl ix se te hd sr tr).toArray) ∧ Below w.heap.size w w' := by
  have H := hide (DataFacts.mk' (v := v) (sl := sl) (ix := ix) (se := se) (te := te) w hA)
  have c1 := (unhide H).c1
  have c2 := (unhide H).c2
  clear hA
  go_enter Try.func53, Try.ntmps53
  go_wp2_with (first
    | (with_reducible (show wpList _ _ _ ({ dst := _, op := Op.load 59 _, type := _, pos := _, after := _, guard := _ } :: _) _ _); refine wpList_load_mid rfl 59 _ rfl w.heap.size 3 rfl hd _ (unhide H).r3 Try.underlying59 rfl (unhide H).s59 ?_; go_frame)
    | (with_reducible (show wpList _ _ _ ({ dst := some 10, op := Op.load 61 _, type := _, pos := _, after := _, guard := _ } :: _) _ _); refine wpList_load_mid rfl 61 _ rfl w.heap.size 35 rfl (cpL se sr) _ (unhide H).r35 Try.underlying61 rfl (unhide H).s61 ?_; go_frame)
    | (with_reducible (show wpList _ _ _ ({ dst := some 12, op := Op.load 61 _, type := _, pos := _, after := _, guard := _ } :: _) _ _); refine wpList_load_mid rfl 61 _ rfl w.heap.size 68 rfl (cpL te tr) _ (unhide H).r68 Try.underlying61 rfl (unhide H).s61' ?_; go_frame)
    | (with_reducible (show wpList _ _ _ ({ dst := _, op := Op.build 67 _, type := _, pos := _, after := _, guard := _ } :: _) _ _); refine wpList_build_at rfl 67 _ rfl [(0, .int .u64 sl), (1, .int .u64 ix), (2, .agg hd.toArray), (3, .agg (cpL se sr).toArray), (4, .agg (cpL te tr).toArray)] (by simp [Act.eval]) _ (built67 (unhide H).arr.l1 (unhide H).arr.l2 (unhide H).arr.l3) ?_; go_frame)
    | (with_reducible (show wpList _ _ _ ({ dst := _, op := Op.store 67 _ _, type := _, pos := _, after := _, guard := _ } :: _) _ _); refine wpList_store_new rfl 67 _ _ rfl (w.heap.size + 1) _ rfl rfl 67 Try.zeroCells67 _ rfl (by simp) (unhide H).s67 (unhide H).z67 (unhide H).o67 ?_; go_frame))
  refine bodyPost_ret (v := .agg (datL sl ix se te hd sr tr).toArray) ?_ rfl ⟨rfl, ((Below.refl _ _).alloc (Nat.le_refl _) _).alloc (by simp) _⟩
  refine results_cell_row Try.results53 _ _ (w.heap.size + 1) 67 _ (0, 0) _ rfl ?_ Try.underlying67 rfl (unhide H).s67
  have e := heap_alloc_new (w.alloc (.cells (attL v sl ix se te hd sr tr).toArray 82)) (.cells (datL sl ix se te hd sr tr).toArray 67)
  simpa using e

end Go.Proofs.Qxb6603397a

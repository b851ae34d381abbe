/-
  holdVote at a vote that is not held.
-/
import Derived.Test.Qxb6603397aHv
namespace Go.Proofs.Qxb6603397a
open Go.RowKit Go.Maps

theorem ptrElem_nil {v : Value} {ps : List MemPlace} (h : ptrElem v = some (.nil, ps)) : v = .pointer none := by
  unfold ptrElem at h
  split at h
  · simp at h
  · rfl
  · cases h

set_option maxRecDepth 100000 in
set_option maxHeartbeats 2000000 in
theorem hold46_zero (sl ix se te : Int) (hd sr tr : List Value) (fb : Bool) (hA : Arrs hd sr tr) (hb bm vm : Nat) (iv : Value) (items : List (Nat × Value)) (N : Nat) (D : DataW Unit) (w : World) (hH : Hold w hb bm vm iv items N D)
    (law : Keyed Try.prog 69) (kl : Lit) (hkl : keyOf Try.prog 69 (.agg (keyL sl ix se te hd sr tr fb).toArray) = some kl)
    (B : Nat) (va : Option Addr) (vc : Nat) (X : List Int) (hX : Sl B w va 0 vc X) (hB : B ≤ w.heap.size) (hbv : Maps.has D kl = false) :
    Calls Try.prog 46 #[.pointer (some ⟨hb, 0, none⟩), .agg (attL (.slice va 0 vc) sl ix se te hd sr tr).toArray, .bool fb] w fun e w' => e = .returned (.int .i64 0) ∧ Below w.heap.size w w' := by
  have hpv : ∀ v ps, ptrElem v = some (D.atKey kl .nil, ps) → v = .pointer none := fun v ps h => ptrElem_nil (by rw [atKey_of_not_has hbv] at h; exact h)
  have H := hide (HvFacts.mk' (v := .slice va 0 vc) (sl := sl) (ix := ix) (se := se) (te := te) (fb := fb) hA)
  have HH := hide hH
  have hc2 := hH.c2
  have hlt : hb < w.heap.size := hH.lt
  have HX := hide (And.intro hX hB)
  clear hA hH hX hB
  go_enter Try.func46, Try.ntmps46
  go_wp2_with (first
    | (with_reducible (show wpList _ _ _ ({ dst := _, op := Op.load 82 _, type := _, pos := _, after := _, guard := _ } :: _) _ _); refine wpList_load_row rfl 82 _ rfl w.heap.size rfl 82 (attL (.slice va 0 vc) sl ix se te hd sr tr).toArray (0, 0) _ (heap_alloc_new w _) Try.underlying82 rfl (unhide H).s82 ?_; go_frame))
  refine (data53 (.slice va 0 vc) sl ix se te hd sr tr (unhide H).arr _).mono ?_
  rintro e w1 ⟨rfl, b1⟩
  have hb1 : Below w.heap.size w w1 := ((Below.refl _ _).alloc (Nat.le_refl _) _).trans (b1.mono (by simp))
  have hsz : w.heap.size < w1.heap.size := by have := b1.size; simp at this; omega
  have hg0 : w1.heap[w.heap.size]? = some (.cells (attL (.slice va 0 vc) sl ix se te hd sr tr).toArray 82 (0, 0)) := by rw [b1.block _ (by simp)]; exact heap_alloc_new w _
  have HW := hide (And.intro hb1 hg0)
  have hc2' : w1.cell? ⟨hb, 2, none⟩ = some (.map (some vm)) := (hb1.cell (p := ⟨hb, 2, none⟩) hlt).trans hc2
  have HO1 := hide ((unhide HH).below hb1).vot
  clear b1 hb1 hg0 hc2
  go_wp2_with (first
    | (with_reducible (show wpList _ _ _ ({ dst := _, op := Op.build 69 _, type := _, pos := _, after := _, guard := _ } :: _) _ _); refine wpList_build_at rfl 69 _ rfl [(0, .agg (datL sl ix se te hd sr tr).toArray), (1, .bool fb)] (by simp [Act.eval]) (keyL sl ix se te hd sr tr fb).toArray (built69 (datL_length (unhide H).arr.l1 (unhide H).arr.l2 (unhide H).arr.l3)) ?_; go_frame)
    | (with_reducible (show wpList _ _ _ ({ dst := _, op := Op.store 69 _ _, type := _, pos := _, after := _, guard := _ } :: _) _ _); refine wpList_store_new rfl 69 _ _ rfl w1.heap.size _ rfl rfl 69 Try.zeroCells69 _ rfl rfl (unhide H).s69 (unhide H).z69 (unhide H).o69 ?_; go_frame))
  have hlook := look77 law ((unhide HO1).alloc (.cells (keyL sl ix se te hd sr tr fb).toArray 69)) hkl hpv
  rw [hbv] at hlook
  have hkh : (w1.alloc (.cells (keyL sl ix se te hd sr tr fb).toArray 69)).heap[w1.heap.size]? = some (.cells (keyL sl ix se te hd sr tr fb).toArray 69 (0, 0)) := heap_alloc_new w1 _
  have hkK := keyL_length (sl := sl) (ix := ix) (se := se) (te := te) (fb := fb) (unhide H).arr
  have hlt1 : hb < w1.heap.size := by omega
  have HKL := hide hkl
  clear hkl hpv hbv
  have hat0 : (attL (.slice va 0 vc) sl ix se te hd sr tr).toArray[0]? = some (.slice va 0 vc) := rfl
  have hca : w1.cell? ⟨w.heap.size, 0, none⟩ = some (.slice va 0 vc) := (cell_of_row w1 _ 0 _ 82 (0, 0) (unhide HW).2).trans hat0
  have HKO := hide (And.intro hkK (unhide H).o69)
  clear hat0 H hkK
  generalize hKe : keyL sl ix se te hd sr tr fb = K at *
  have HKE := hide hKe
  clear hKe
  refine wp_region_quiet_lit (by kernel_rfl) (by kernel_rfl) ?_
  repeat (go_big_quiet_step (fail))
  refine wpQuiet_load_row rfl 69 _ rfl w1.heap.size rfl 69 K.toArray (0, 0) _ (fun w' hw' => by obtain ⟨n, rfl⟩ := hw'; exact hkh) Try.underlying69 rfl (by rw [i69]; simp [(unhide HKO).1]) ?_
  go_frame
  repeat (go_big_quiet_step (fail))
  refine wpQuiet_nil ?_
  intro _ hw'
  obtain ⟨nq, hw''⟩ := hw'
  subst hw''
  clear hlook HO1
  go_wp2_with fail
  refine (clone54 (w := (w1.alloc (.cells K.toArray 69)).drewN nq) (((unhide HX).1.below ((unhide HW).1.mono (unhide HX).2)).below (below_drewN ((Below.refl _ _).alloc (Nat.le_trans (unhide HX).2 (Nat.le_of_lt hsz)) _) nq)) (by have := (unhide HX).2; simp; omega) (by omega)).mono ?_
  rintro e w3 ⟨fa, fc, rfl, hown, hb3⟩
  have hkh3 : w3.heap[w1.heap.size]? = some (.cells K.toArray 69 (0, 0)) := by rw [hb3.block _ (by simp)]; exact hkh
  have hbel : Below w.heap.size w w3 := (unhide HW).1.trans ((below_drewN ((Below.refl _ _).alloc (Nat.le_of_lt hsz) _) nq).trans (hb3.mono (by simp; omega)))
  have HB := hide hbel
  clear hown hb3 hbel
  go_wp2_with (first
    | (with_reducible (show wpList _ _ _ ({ dst := _, op := Op.load 69 _, type := _, pos := _, after := _, guard := _ } :: _) _ _); refine wpList_load_row rfl 69 _ rfl w1.heap.size rfl 69 K.toArray (0, 0) _ hkh3 Try.underlying69 rfl (by rw [i69]; simp [(unhide HKO).1]) ?_; go_frame)
    | (with_reducible (show wpList _ _ _ ({ dst := _, op := Op.build 72 _, type := _, pos := _, after := _, guard := _ } :: _) _ _); refine wpList_build_at rfl 72 _ rfl [(0, .agg K.toArray), (1, .slice fa 0 fc)] (by simp [Act.eval]) _ (built72 (unhide HKO).1 rfl) ?_; go_frame))
  go_ret
  exact ⟨rfl, (unhide HB).alloc (unhide HB).size _⟩

end Go.Proofs.Qxb6603397a

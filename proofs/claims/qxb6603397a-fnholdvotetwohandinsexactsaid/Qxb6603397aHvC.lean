/-
  holdVote at a vote that is held.
-/
import Derived.Test.Qxb6603397aHvB
import Derived.Test.Qxb6603397aAddV
namespace Go.Proofs.Qxb6603397a
open Go.RowKit Go.Maps

set_option maxRecDepth 100000 in
set_option maxHeartbeats 2000000 in
theorem hold46_same (sl ix se te : Int) (hd sr tr : List Value) (fb : Bool) (hA : Arrs hd sr tr) (hb bm vm : Nat) (iv : Value) (items : List (Nat × Value)) (N : Nat) (D : DataW Unit) (w : World) (hH : Hold w hb bm vm iv items N D)
    (law : Keyed Try.prog 69) (kl : Lit) (hkl : keyOf Try.prog 69 (.agg (keyL sl ix se te hd sr tr fb).toArray) = some kl)
    (vb : Nat) (fa : Option Addr) (fc : Nat) (F : List Int) (hHd : Held w vb fa fc F none F) (hinc : incB F = true) (hFl : F.length ≤ 1000000) (hat : D.atKey kl .nil = .lit (.int .i64 vb)) (hbv : Maps.has D kl = true)
    (B : Nat) (va : Option Addr) (n vc : Nat) (X : List Int) (hX : Sl B w va n vc X) (hB : B ≤ w.heap.size) (hn : n ≤ 1000000) (hY : news X F = []) :
    Calls Try.prog 46 #[.pointer (some ⟨hb, 0, none⟩), .agg (attL (.slice va n vc) sl ix se te hd sr tr).toArray, .bool fb] w fun e w' => e = .returned (.int .i64 0) ∧ Below w.heap.size w w' := by
  have hY' : fr X F n = [] := by rw [← hY]; unfold news; rw [hX.len]
  have HY := hide hY'
  clear hY hY'
  have hpv : ∀ v ps, ptrElem v = some (D.atKey kl .nil, ps) → v = .pointer (some ⟨vb, 0, none⟩) := fun v ps h => ptrElem_inv (by rw [hat] at h; exact h)
  have H := hide (HvFacts.mk' (v := .slice va n vc) (sl := sl) (ix := ix) (se := se) (te := te) (fb := fb) hA)
  have HH := hide hH
  have hc2 := hH.c2
  have hlt : hb < w.heap.size := hH.lt
  have HX := hide (And.intro hX hB)
  have HHd := hide hHd
  have HIN := hide hinc
  clear hA hH hX hB hHd hinc
  go_enter Try.func46, Try.ntmps46
  go_wp2_with (first
    | (with_reducible (show wpList _ _ _ ({ dst := _, op := Op.load 82 _, type := _, pos := _, after := _, guard := _ } :: _) _ _); refine wpList_load_row rfl 82 _ rfl w.heap.size rfl 82 (attL (.slice va n vc) sl ix se te hd sr tr).toArray (0, 0) _ (heap_alloc_new w _) Try.underlying82 rfl (unhide H).s82 ?_; go_frame))
  refine (data53 (.slice va n vc) sl ix se te hd sr tr (unhide H).arr _).mono ?_
  rintro e w1 ⟨rfl, b1⟩
  have hb1 : Below w.heap.size w w1 := ((Below.refl _ _).alloc (Nat.le_refl _) _).trans (b1.mono (by simp))
  have hsz : w.heap.size < w1.heap.size := by have := b1.size; simp at this; omega
  have hg0 : w1.heap[w.heap.size]? = some (.cells (attL (.slice va n vc) sl ix se te hd sr tr).toArray 82 (0, 0)) := by rw [b1.block _ (by simp)]; exact heap_alloc_new w _
  have HW := hide (And.intro hb1 hg0)
  have hc2' : w1.cell? ⟨hb, 2, none⟩ = some (.map (some vm)) := (hb1.cell (p := ⟨hb, 2, none⟩) hlt).trans hc2
  have HO1 := hide ((unhide HH).below hb1).vot
  clear b1 hb1 hg0 hc2
  go_wp2_with (first
    | (with_reducible (show wpList _ _ _ ({ dst := _, op := Op.build 69 _, type := _, pos := _, after := _, guard := _ } :: _) _ _); refine wpList_build_at rfl 69 _ rfl [(0, .agg (datL sl ix se te hd sr tr).toArray), (1, .bool fb)] (by simp [Act.eval]) (keyL sl ix se te hd sr tr fb).toArray (built69 (datL_length (unhide H).arr.l1 (unhide H).arr.l2 (unhide H).arr.l3)) ?_; go_frame)
    | (with_reducible (show wpList _ _ _ ({ dst := _, op := Op.store 69 _ _, type := _, pos := _, after := _, guard := _ } :: _) _ _); refine wpList_store_new rfl 69 _ _ rfl w1.heap.size _ rfl rfl 69 Try.zeroCells69 _ rfl rfl (unhide H).s69 (unhide H).z69 (unhide H).o69 ?_; go_frame))
  have hlook := look77 law ((unhide HO1).alloc (.cells (keyL sl ix se te hd sr tr fb).toArray 69)) hkl hpv
  rw [hbv] at hlook
  have hkh : (w1.alloc (.cells (keyL sl ix se te hd sr tr fb).toArray 69)).heap[w1.heap.size]? = some (.cells (keyL sl ix se te hd sr tr fb).toArray 69 (0, 0)) := heap_alloc_new w1 _
  have hkK := keyL_length (sl := sl) (ix := ix) (se := se) (te := te) (fb := fb) (unhide H).arr
  have hlt1 : hb < w1.heap.size := by omega
  have HKL := hide hkl
  clear hkl hpv hbv hat
  have hat0 : (attL (.slice va n vc) sl ix se te hd sr tr).toArray[0]? = some (.slice va n vc) := rfl
  have hca : w1.cell? ⟨w.heap.size, 0, none⟩ = some (.slice va n vc) := (cell_of_row w1 _ 0 _ 82 (0, 0) (unhide HW).2).trans hat0
  have HKO := hide (And.intro hkK (unhide H).o69)
  clear hat0 H hkK
  generalize hKe : keyL sl ix se te hd sr tr fb = K at *
  have HKE := hide hKe
  clear hKe
  refine wp_region_quiet_lit (by kernel_rfl) (by kernel_rfl) ?_
  repeat (go_big_quiet_step (fail))
  refine wpQuiet_load_row rfl 69 _ rfl w1.heap.size rfl 69 K.toArray (0, 0) _ (fun w' hw' => by obtain ⟨n, rfl⟩ := hw'; exact hkh) Try.underlying69 rfl (by rw [i69]; simp [(unhide HKO).1]) ?_
  go_frame
  repeat (go_big_quiet_step (fail))
  refine wpQuiet_nil ?_
  intro _ hw'
  obtain ⟨nq, hw''⟩ := hw'
  subst hw''
  clear hlook HO1
  have hB2 : Below w.heap.size w ((w1.alloc (.cells K.toArray 69)).drewN nq) := (unhide HW).1.trans (below_drewN ((Below.refl _ _).alloc (Nat.le_of_lt hsz) _) nq)
  have HB2 := hide hB2
  clear hB2
  go_wp2_with fail
  refine (add44_nil ((w1.alloc (.cells K.toArray 69)).drewN nq) vb fa fc F none F ((unhide HHd).below (unhide HB2)) (unhide HIN) (by omega) va n vc X (unhide HX).1.len hn (((unhide HX).1.below ((unhide HB2).mono (unhide HX).2)).at (by have := (unhide HX).2; simp; omega)) (unhide HX).1.wf_at (unhide HY)).mono ?_
  rintro e w3 ⟨rfl, hb3⟩
  have HB3 := hide ((unhide HB2).trans (hb3.mono (unhide HB2).size))
  clear hb3
  go_wp2
  go_ret
  exact ⟨rfl, unhide HB3⟩

theorem Held.keepS {S : Nat → Prop} {w w' : World} {vb : Nat} {fa : Option Addr} {fc : Nat} {F : List Int} {m : Option Nat} {L : List Int} (h : Held w vb fa fc F m L) (hk : Keep S w w') (s1 : ¬ S vb) (s2 : ∀ b off, fa = some ⟨b, off, none⟩ → ¬ S b) (s3 : ∀ k, m = some k → ¬ S k) : Held w' vb fa fc F m L :=
  ⟨(hk.cell (p := ⟨vb, 101, none⟩) h.lt s1).trans h.first, (hk.cell (p := ⟨vb, 102, none⟩) h.lt s1).trans h.vals, (hk.frozen (p := ⟨vb, 102, none⟩) h.lt s1).trans h.free, h.row.keep hk s2, h.nomap, fun mb e => ⟨(h.ismap mb e).1, ownsMap_keep (h.ismap mb e).2 hk (s3 mb e)⟩⟩

/-- What holdVote leaves at a vote that was held, where something is new. -/
structure OldVote (w w' : World) (hb bm vm : Nat) (iv : Value) (items : List (Nat × Value)) (N : Nat) (D : DataW Unit) (kl : Lit) (vb : Nat) (fa : Option Addr) (fc : Nat) (F Y : List Int) (mb : Nat) (ga : Option Addr) (gc : Nat) (iv' : Value) : Prop where
  hold : Hold w' hb bm vm iv' (items ++ [(vb, .slice ga Y.length gc)]) (N + 1) (D.put kl (.lit (.int .i64 vb)))
  held : Held w' vb fa fc F (some mb) (F ++ Y)
  row : w'.ownsRow w.heap.size 39 1 (.slice ga Y.length gc) Y.length (vals Y)
  cells : ∀ j, j ≠ 102 → w'.cell? ⟨vb, j, none⟩ = w.cell? ⟨vb, j, none⟩
  keep : Keep (fun i => i = hb ∨ i = vm ∨ i = vb ∨ iv.ownBlock = some i) w w'

set_option maxRecDepth 100000 in
set_option maxHeartbeats 4000000 in
theorem hold46_more (sl ix se te : Int) (hd sr tr : List Value) (fb : Bool) (hA : Arrs hd sr tr) (hb bm vm : Nat) (iv : Value) (items : List (Nat × Value)) (N : Nat) (D : DataW Unit) (w : World) (hH : Hold w hb bm vm iv items N D)
    (law : Keyed Try.prog 69) (kl : Lit) (hkl : keyOf Try.prog 69 (.agg (keyL sl ix se te hd sr tr fb).toArray) = some kl)
    (vb : Nat) (fa : Option Addr) (fc : Nat) (F : List Int) (hHd : Held w vb fa fc F none F) (hinc : incB F = true) (hFl : F.length ≤ 1000000) (hat : D.atKey kl .nil = .lit (.int .i64 vb)) (hbv : Maps.has D kl = true)
    (B : Nat) (va : Option Addr) (n vc : Nat) (X : List Int) (hX : Sl B w va n vc X) (hB : B ≤ w.heap.size) (hn : n ≤ 1000000) (hY : news X F ≠ []) (hvb : hb < vb) (hivb : iv.ownBlock ≠ some vb) (hfab : ∀ b off, fa = some ⟨b, off, none⟩ → ¬ (b = hb ∨ b = vm ∨ iv.ownBlock = some b)) (hit : items.length ≤ 1000) (hN : N ≤ 1000) :
    Calls Try.prog 46 #[.pointer (some ⟨hb, 0, none⟩), .agg (attL (.slice va n vc) sl ix se te hd sr tr).toArray, .bool fb] w fun e w' => e = .returned (.int .i64 (news X F).length) ∧
      ∃ mb ga gc iv', OldVote w w' hb bm vm iv items N D kl vb fa fc F (news X F) mb ga gc iv' := by
  have e0 : news X F = fr X F n := by unfold news; rw [hX.len]
  rw [e0] at hY ⊢
  have HY := hide hY
  have HFAB := hide hfab
  clear hfab
  have hvw : vb < w.heap.size := hHd.lt
  clear hY e0
  have hpv : ∀ v ps, ptrElem v = some (D.atKey kl .nil, ps) → v = .pointer (some ⟨vb, 0, none⟩) := fun v ps h => ptrElem_inv (by rw [hat] at h; exact h)
  have H := hide (HvFacts.mk' (v := .slice va n vc) (sl := sl) (ix := ix) (se := se) (te := te) (fb := fb) hA)
  have HH := hide hH
  have hc2 := hH.c2
  have hlt : hb < w.heap.size := hH.lt
  have HX := hide (And.intro hX hB)
  have HHd := hide hHd
  have HIN := hide hinc
  clear hA hH hX hB hHd hinc
  go_enter Try.func46, Try.ntmps46
  go_wp2_with (first
    | (with_reducible (show wpList _ _ _ ({ dst := _, op := Op.load 82 _, type := _, pos := _, after := _, guard := _ } :: _) _ _); refine wpList_load_row rfl 82 _ rfl w.heap.size rfl 82 (attL (.slice va n vc) sl ix se te hd sr tr).toArray (0, 0) _ (heap_alloc_new w _) Try.underlying82 rfl (unhide H).s82 ?_; go_frame))
  refine (data53 (.slice va n vc) sl ix se te hd sr tr (unhide H).arr _).mono ?_
  rintro e w1 ⟨rfl, b1⟩
  have hb1 : Below w.heap.size w w1 := ((Below.refl _ _).alloc (Nat.le_refl _) _).trans (b1.mono (by simp))
  have hsz : w.heap.size < w1.heap.size := by have := b1.size; simp at this; omega
  have hg0 : w1.heap[w.heap.size]? = some (.cells (attL (.slice va n vc) sl ix se te hd sr tr).toArray 82 (0, 0)) := by rw [b1.block _ (by simp)]; exact heap_alloc_new w _
  have HW := hide (And.intro hb1 hg0)
  have hc2' : w1.cell? ⟨hb, 2, none⟩ = some (.map (some vm)) := (hb1.cell (p := ⟨hb, 2, none⟩) hlt).trans hc2
  have HO1 := hide ((unhide HH).below hb1).vot
  clear b1 hb1 hg0 hc2
  go_wp2_with (first
    | (with_reducible (show wpList _ _ _ ({ dst := _, op := Op.build 69 _, type := _, pos := _, after := _, guard := _ } :: _) _ _); refine wpList_build_at rfl 69 _ rfl [(0, .agg (datL sl ix se te hd sr tr).toArray), (1, .bool fb)] (by simp [Act.eval]) (keyL sl ix se te hd sr tr fb).toArray (built69 (datL_length (unhide H).arr.l1 (unhide H).arr.l2 (unhide H).arr.l3)) ?_; go_frame)
    | (with_reducible (show wpList _ _ _ ({ dst := _, op := Op.store 69 _ _, type := _, pos := _, after := _, guard := _ } :: _) _ _); refine wpList_store_new rfl 69 _ _ rfl w1.heap.size _ rfl rfl 69 Try.zeroCells69 _ rfl rfl (unhide H).s69 (unhide H).z69 (unhide H).o69 ?_; go_frame))
  have hlook := look77 law ((unhide HO1).alloc (.cells (keyL sl ix se te hd sr tr fb).toArray 69)) hkl hpv
  rw [hbv] at hlook
  have hkh : (w1.alloc (.cells (keyL sl ix se te hd sr tr fb).toArray 69)).heap[w1.heap.size]? = some (.cells (keyL sl ix se te hd sr tr fb).toArray 69 (0, 0)) := heap_alloc_new w1 _
  have hkK := keyL_length (sl := sl) (ix := ix) (se := se) (te := te) (fb := fb) (unhide H).arr
  have hlt1 : hb < w1.heap.size := by omega
  have HKL := hide hkl
  clear hkl hpv hbv hat
  have hat0 : (attL (.slice va n vc) sl ix se te hd sr tr).toArray[0]? = some (.slice va n vc) := rfl
  have hca : w1.cell? ⟨w.heap.size, 0, none⟩ = some (.slice va n vc) := (cell_of_row w1 _ 0 _ 82 (0, 0) (unhide HW).2).trans hat0
  have HKO := hide (And.intro hkK (unhide H).o69)
  clear hat0 H hkK
  generalize hKe : keyL sl ix se te hd sr tr fb = K at *
  have HKE := hide hKe
  clear hKe
  refine wp_region_quiet_lit (by kernel_rfl) (by kernel_rfl) ?_
  repeat (go_big_quiet_step (fail))
  refine wpQuiet_load_row rfl 69 _ rfl w1.heap.size rfl 69 K.toArray (0, 0) _ (fun w' hw' => by obtain ⟨n, rfl⟩ := hw'; exact hkh) Try.underlying69 rfl (by rw [i69]; simp [(unhide HKO).1]) ?_
  go_frame
  repeat (go_big_quiet_step (fail))
  refine wpQuiet_nil ?_
  intro _ hw'
  obtain ⟨nq, hw''⟩ := hw'
  subst hw''
  clear hlook HO1
  have hB2 : Below w.heap.size w ((w1.alloc (.cells K.toArray 69)).drewN nq) := (unhide HW).1.trans (below_drewN ((Below.refl _ _).alloc (Nat.le_of_lt hsz) _) nq)
  have hk2 : ((w1.alloc (.cells K.toArray 69)).drewN nq).heap[w1.heap.size]? = some (.cells K.toArray 69 (0, 0)) := hkh
  have HB2 := hide (And.intro hB2 hk2)
  clear hB2 hk2
  have hws2 : ((w1.alloc (.cells K.toArray 69)).drewN nq).heap.size = w1.heap.size + 1 := by simp
  go_wp2_with fail
  refine (add44_nonev ((w1.alloc (.cells K.toArray 69)).drewN nq) vb fa fc F F ((unhide HHd).below (unhide HB2).1) (unhide HIN) (by omega) va n vc X (unhide HX).1.len hn (((unhide HX).1.below ((unhide HB2).1.mono (unhide HX).2)).at (by have := (unhide HX).2; simp; omega)) (unhide HX).1.wf_at (unhide HY)).mono ?_
  rintro e W ⟨ga, gc, mb, rfl, hmb, hrow, hHd3, hKV⟩
  rw [hws2] at hrow
  have hbW : Keep (· = vb) w W := (Keep.of_below (unhide HB2).1).trans hKV.keep (fun i _ hi => hi)
  have hcW : ∀ j, j ≠ 102 → W.cell? ⟨vb, j, none⟩ = w.cell? ⟨vb, j, none⟩ := fun j hj => (hKV.cells j hj).trans ((unhide HB2).1.cell (p := ⟨vb, j, none⟩) hvw)
  have HHW := (unhide HH).keep hbW (by omega) (by have := (unhide HH).lt1; omega) (by have := (unhide HH).lt2; omega) (fun g hg e => hivb (by rw [hg, e]))
  have hkW : W.heap[w1.heap.size]? = some (.cells K.toArray 69 (0, 0)) := by rw [hKV.keep.block _ (by rw [hws2]; omega) (by omega)]; exact (unhide HB2).2
  have hWs : w1.heap.size < W.heap.size := by have := hKV.keep.size; rw [hws2] at this; omega
  have HV := hide (And.intro hkW (And.intro hrow (And.intro hHd3 (And.intro hbW hcW))))
  have hfl := fr_le X F n
  have hivlt : ∀ i, iv.ownBlock = some i → i < w.heap.size := fun i hi => ((unhide HH).rows.lt i hi).2
  have HIV := hide hivlt
  have hfpos : 0 < (fr X F n).length := List.length_pos_iff.2 (unhide HY)
  rw [hws2] at hmb
  clear hbW hcW hkW hrow hHd3 hKV HB2 HH HW hkh hc2' HX hivlt hca HHd HIN hws2
  generalize hfe : fr X F n = Y at *
  have HFE := hide hfe
  clear hfe
  generalize hyl : Y.length = y at *
  have HYL := hide hyl
  clear hyl
  have hn0 : ((y : Int) == 0) = false := by rw [beq_eq_false_iff_ne]; omega
  generalize w1.heap.size = kb at *
  go_wp2_with fail
  have hc0 := HHW.c0
  have hf0 := HHW.f0
  have hltW := HHW.lt
  have hrows := HHW.rows
  have hag : iv.ownBlock ≠ some hb := fun e => by have := (HHW.rows.lt hb e).1; omega
  have HHW' := hide HHW
  clear HHW
  generalize hil : items.length = il at *
  have HIL := hide hil
  clear hil
  obtain ⟨i0, hi0, hz0, hz1, hz2⟩ := info_parts Try.info91
  have hA1' : ∀ o, (W.alloc o).cell? ⟨hb, 0, none⟩ = some iv := (fun o => (((Below.refl _ _).alloc (Nat.le_refl _) o).cell (p := ⟨hb, 0, none⟩) hltW).trans hc0)
  have hA1 := hide hA1'
  have hA2 : Hid (∀ o, (W.alloc o).frozen? ⟨hb, 0, none⟩ = false) := hide (fun o => (((Below.refl _ _).alloc (Nat.le_refl _) o).frozen (p := ⟨hb, 0, none⟩) hltW).trans hf0)
  go_region_law (refine step_append_lies _ (by rfl) _ _ _ (by rfl) (hb + 1) 91 i0 _ 3 40 Try.underlying78 hi0 hz0 hz1 hz2 rfl (by omega) iv il (itemCells items) (by rfl) ((hrows.alloc _).drew) ⟨W.heap.size, 0, none⟩ 1 1 [.pointer none, .pointer (some ⟨vb, 0, none⟩), .slice (some ⟨ga, 0, none⟩) y gc] (by rfl) (by rfl) (World.news_of_block (cs := #[.pointer none, .pointer (some ⟨vb, 0, none⟩), .slice (some ⟨ga, 0, none⟩) y gc]) (t := 91) (fr := (0, 0)) (heap_alloc_new W _)) (by simp [Value.oneCell']) (by omega) (by unfold maxLen; omega) (by omega) (by simp; omega) (W.heap.size + 1) (by simp) ?_; intro g cap w4 hown4 hgrow hat hlt4; have hc4 := (hgrow.cell_far ⟨hb, 0, none⟩ (by simp; omega) (Ne.symm hag)).trans (unhide hA1 _); have hf4 := (hgrow.frozen_far ⟨hb, 0, none⟩ (by simp; omega) (Ne.symm hag)).trans (unhide hA2 _)) 
  all_goals
    have hWa : Below W.heap.size W ((W.alloc (.cells #[.pointer none, .pointer (some ⟨vb, 0, none⟩), .slice (some ⟨ga, 0, none⟩) y gc] 91)).drew) := ((Below.refl _ _).alloc (Nat.le_refl _) _).drew
    obtain ⟨HH5, hK5⟩ := Hold.appended (unhide HHW') hWa hgrow (by rw [unhide HIL]; exact hown4)
    rw [unhide HIL] at HH5 hK5
    clear hWa hown4 hgrow hat hlt4 hc4 hf4 hA1 hA1' hA2 hrows hc0 hf0 HHW'
    have hkne : ¬ (kb = hb ∨ iv.ownBlock = some kb) := by
      rintro (h | h)
      · omega
      · have := unhide HIV kb h; omega
    have hkW5 := (hK5.block kb (by omega) hkne).trans (unhide HV).1
    generalize w4.setCell ⟨hb, 0, none⟩ (.slice (some ⟨g, 0, none⟩) (il + 1) cap) = W5 at *
    obtain ⟨w6, hrun, hown6, hgrow6⟩ := HH5.vot.drew.update law Try.underlying77 (by unfold maxLen; omega) (unhide HKL) (ptrElem_mk vb)
    have hc25 : W5.cell? ⟨hb, 2, none⟩ = some (.map (some vm)) := HH5.c2
    have l2 := HH5.lt2
    have hbs : hb < W5.heap.size := HH5.lt
    have hkd : W5.drew.heap[kb]? = some (.cells K.toArray 69 (0, 0)) := hkW5
    have hfin := hide (And.intro HH5 (And.intro hK5 (And.intro hown6 hgrow6)))
    have hKl : K.length = 101 := (unhide HKO).1
    clear HH5 hK5 hown6 hgrow6 hkW5
    go_wp2_with fail
    refine wp_region_still_tail 6 (by kernel_rfl) (by kernel_rfl) ?_
    simp only [List.take_succ_cons, List.take_zero, List.drop_succ_cons, List.drop_zero]
    change wpStill _ _ W5.drew (fun a' => wpList _ _ _ _ a' W5.drew) _ _
    still_step
    still_step
    still_step
    still_step
    refine wpStill_load_row rfl 69 _ rfl kb rfl 69 K.toArray (0, 0) _ hkd Try.underlying69 rfl (by rw [i69]; simp [hKl]) ?_
    go_frame
    still_step
    refine wpStill_nil ?_
    go_wp2
    go_ret
    obtain ⟨HH5, hK5, hown6, hgrow6⟩ := unhide hfin
    obtain ⟨_, hrow, hHd3, hbW, hcW⟩ := unhide HV
    have hgrow6' : W5.grownBy w6 (some vm) := ⟨hgrow6.os, hgrow6.tape, hgrow6.output, hgrow6.size, hgrow6.block⟩
    have hk56 : Keep (fun i => i = hb ∨ i = vm ∨ iv.ownBlock = some i) W w6 := by
      refine Keep.trans (S := fun i => i = hb ∨ i = vm ∨ iv.ownBlock = some i) ⟨hK5.os, hK5.tape, hK5.output, hK5.size, fun k hk hne => hK5.block k hk (fun e => hne (by rcases e with e | e; exact .inl e; exact .inr (.inr e)))⟩ (Keep.of_grown hgrow6') (fun i _ hi => .inr (.inl (by simpa using hi.symm)))
    have hnv : ¬ (vb = hb ∨ vb = vm ∨ iv.ownBlock = some vb) := by
      rintro (h | h | h)
      · omega
      · omega
      · exact hivb h
    have hvW : vb < W.heap.size := hHd3.lt
    rw [unhide HFE]
    have hnew : ∀ k, kb < k → ¬ (k = hb ∨ k = vm ∨ iv.ownBlock = some k) := by
      intro k hk
      rintro (h | h | h)
      · omega
      · omega
      · have := unhide HIV k h; omega
    refine ⟨by rw [unhide HYL]; rfl, mb, some ⟨ga, 0, none⟩, gc, .slice (some ⟨g, 0, none⟩) (il + 1) cap, ⟨?_, ?_, ?_, ?_, ?_⟩⟩
    · rw [unhide HYL]
      exact HH5.stored hgrow6' hown6
    · exact hHd3.keepS hk56 hnv (unhide HFAB) (fun k e => by cases e; exact hnew mb (by omega))
    · rw [unhide HYL]
      exact (ownsRow_keep hrow hk56 (fun k hk => hnew k (by have := (hrow.lt k hk).1; omega))).base (by omega)
    · intro j hj
      rw [hk56.cell (p := ⟨vb, j, none⟩) hvW hnv]
      exact hcW j hj
    · refine Keep.trans (S := fun i => i = hb ∨ i = vm ∨ i = vb ∨ iv.ownBlock = some i) ⟨hbW.os, hbW.tape, hbW.output, hbW.size, fun k hk hne => hbW.block k hk (fun e => hne (.inr (.inr (.inl e))))⟩ hk56 (fun i _ hi => ?_)
      rcases hi with h | h | h
      · exact .inl h
      · exact .inr (.inl h)
      · exact .inr (.inr (.inr h))

end Go.Proofs.Qxb6603397a

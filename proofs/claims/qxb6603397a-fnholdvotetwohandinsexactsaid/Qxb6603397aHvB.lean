/-
  holdVote at a vote that is not held, with validators.
-/
import Derived.Test.Qxb6603397aHvA
import Derived.Deep.AppendLies
import Derived.Deep.RegionLaw
import Derived.StillTail
import Derived.StillTactics
namespace Go.Proofs.Qxb6603397a
open Go.RowKit Go.Maps

theorem itemCells_snoc (items : List (Nat × Value)) (vb : Nat) (sv : Value) : itemCells (items ++ [(vb, sv)]) = itemCells items ++ [.pointer none, .pointer (some ⟨vb, 0, none⟩), sv] := by
  simp [itemCells]

section
variable {W wa w4 w6 : World} {hb bm vm : Nat} {iv : Value} {items : List (Nat × Value)} {N : Nat} {D : DataW Unit}

/-- The item is appended and the slice stored back. -/
theorem Hold.appended {g cap vb : Nat} {sv : Value} (h : Hold W hb bm vm iv items N D) (hWa : Below W.heap.size W wa) (hgrow : wa.grownBy w4 iv.ownBlock)
    (hown : w4.ownsRow (hb + 1) 91 3 (.slice (some ⟨g, 0, none⟩) (items.length + 1) cap) (items.length + 1) (itemCells items ++ [.pointer none, .pointer (some ⟨vb, 0, none⟩), sv])) :
    Hold (w4.setCell ⟨hb, 0, none⟩ (.slice (some ⟨g, 0, none⟩) (items.length + 1) cap)) hb bm vm (.slice (some ⟨g, 0, none⟩) (items.length + 1) cap) (items ++ [(vb, sv)]) N D ∧
      Keep (fun i => i = hb ∨ iv.ownBlock = some i) W (w4.setCell ⟨hb, 0, none⟩ (.slice (some ⟨g, 0, none⟩) (items.length + 1) cap)) := by
  have hk4 : Keep (fun i => iv.ownBlock = some i) W w4 := (Keep.of_below hWa).trans (Keep.of_grown hgrow) (fun i _ hi => hi)
  have hiv : ∀ i, iv.ownBlock = some i → hb + 1 ≤ i := fun i hi => (h.rows.lt i hi).1
  have l1 := h.lt1
  have l2 := h.lt2
  have e0 : ¬ (iv.ownBlock = some hb) := fun e => by have := hiv _ e; omega
  have eb : ¬ (iv.ownBlock = some bm) := fun e => by have := hiv _ e; omega
  have ev : ¬ (iv.ownBlock = some vm) := fun e => by have := hiv _ e; omega
  have hg := (hown.lt g rfl).1
  refine ⟨⟨?_, ?_, ?_, ?_, ?_, ?_, ?_, l1, l2, h.ne⟩, ?_⟩
  · exact World.cell?_setCell_same _ _ _ ((hk4.cell (p := ⟨hb, 0, none⟩) h.lt e0).trans h.c0)
  · rw [World.frozen?_setCell]
    exact (hk4.frozen (p := ⟨hb, 0, none⟩) h.lt e0).trans h.f0
  · rw [World.cell?_setCell_other _ _ _ _ (by simp)]
    exact (hk4.cell (p := ⟨hb, 1, none⟩) h.lt e0).trans h.c1
  · rw [World.cell?_setCell_other _ _ _ _ (by simp)]
    exact (hk4.cell (p := ⟨hb, 2, none⟩) h.lt e0).trans h.c2
  · rw [itemCells_snoc, List.length_append]
    exact ownsRow_setCell_below hown (by simp) _
  · exact (ownsMap_keep h.vot hk4 ev).setCell (by simp; omega) _
  · exact (ownsMap_keep h.blk hk4 eb).setCell (by simp; omega) _
  · refine ⟨hk4.os, hk4.tape, hk4.output, by simpa using hk4.size, fun k hk hne => ?_⟩
    rw [Below.heap_setCell _ _ _ _ (fun e => hne (.inl e))]
    exact hk4.block k hk (fun e => hne (.inr e))

/-- The vote is stored in the voters map. -/
theorem Hold.stored {N' : Nat} {D' : DataW Unit} (h : Hold W hb bm vm iv items N D) (hg : W.grownBy w6 (some vm)) (ho : w6.ownsMap Try.prog 69 ptrElem vm N' D') : Hold w6 hb bm vm iv items N' D' := by
  have hk := Keep.of_grown hg
  have l1 := h.lt1
  have l2 := h.lt2
  have hn := h.ne
  have e0 : ¬ (some vm = some hb) := fun e => by cases e; omega
  exact ⟨(hk.cell (p := ⟨hb, 0, none⟩) h.lt e0).trans h.c0, (hk.frozen (p := ⟨hb, 0, none⟩) h.lt e0).trans h.f0, (hk.cell (p := ⟨hb, 1, none⟩) h.lt e0).trans h.c1, (hk.cell (p := ⟨hb, 2, none⟩) h.lt e0).trans h.c2,
    ownsRow_keep h.rows hk (fun g hg e => by have := (h.rows.lt g hg).1; cases e; omega), ho, ownsMap_keep h.blk hk (fun e => by cases e; exact hn rfl), l1, l2, hn⟩

theorem Hold.drewN (h : Hold W hb bm vm iv items N D) (q : Nat) : Hold (W.drewN q) hb bm vm iv items N D := h.below (below_of_drew q)
end

/-- A whole struct read out of its own block, among operations that leave the world alone. -/
theorem wpStill_load_row {P : Program} {ops : Array Oper} {w : World} {Q : Act → Prop} {a : Act} {o : Oper} {rest : List Oper} (hgd : o.guard = none) (ty : TypeId) (x : Operand) (ho : o.op = .load ty x)
    (g : Nat) (hx : a.eval x = .pointer (some ⟨g, 0, none⟩)) (t : TypeId) (cs : Array Value) (fr : Nat × Nat) (d : TypeDesc) (hg : w.heap[g]? = some (.cells cs t fr))
    (hu : P.underlying ty = some d) (hd : (match d with | .struct _ | .array _ _ => true | _ => false) = true) (hi : (P.info? ty).map (·.size) = some cs.size)
    (h : wpStill P ops w Q rest (a.put o.dst (.agg cs))) : wpStill P ops w Q (o :: rest) a := by
  have hw : Region.wanted o (yielded ops a.tmps) = true := by simp [Region.wanted, hgd]
  unfold wpStill
  rw [if_pos hw]
  unfold Oper.still execOp
  simp only [ho, hx, Instr.loadAt, Instr.sureAddr, Sem.run_bind, Sem.run_pure, Result.andThen_ok, run_loadVar_row w g t ty cs fr d hg hu hd hi]
  exact ⟨rfl, h⟩

theorem Sl.keep {S : Nat → Prop} {B : Nat} {w w' : World} {a : Option Addr} {n c : Nat} {zs : List Int} (h : Sl B w a n c zs) (hk : Keep S w w') (hs : ∀ b off, a = some ⟨b, off, none⟩ → ¬ S b) : Sl B w' a n c zs := by
  refine ⟨h.len, h.cap, h.max, h.nil, h.u64, ?_⟩
  rcases h.cell with h0 | ⟨b, off, rfl, hlt, hc⟩
  · exact .inl h0
  · exact .inr ⟨b, off, rfl, hlt, fun j hj => (hk.cell (p := ⟨b, off + j, none⟩) (World.block_lt_of_cell? w _ (hc j hj)) (hs b off rfl)).trans (hc j hj)⟩

/-- A heldVoters' cells. -/
def hvCells (K : List Value) (sv mv : Value) : List Value := K ++ [sv, mv]

/-- What holdVote leaves at a vote that was not held. -/
structure NewVote (w w' : World) (hb bm vm : Nat) (iv : Value) (items : List (Nat × Value)) (N : Nat) (D : DataW Unit) (kl : Lit) (K : List Value) (n : Nat) (X : List Int) (vb : Nat) (fa : Option Addr) (fc : Nat) (iv' : Value) : Prop where
  hold : Hold w' hb bm vm iv' (items ++ [(vb, .slice fa n fc)]) (N + 1) (D.put kl (.lit (.int .i64 vb)))
  held : Held w' vb fa fc X none X
  block : w'.heap[vb]? = some (.cells (hvCells K (.slice fa n fc) (.map none)).toArray 72 (0, 0))
  new : w.heap.size ≤ vb
  firstNew : ∀ b off, fa = some ⟨b, off, none⟩ → w.heap.size ≤ b
  far : ∀ g, iv'.ownBlock = some g → iv.ownBlock = some g ∨ vb < g
  keep : Keep (fun i => i = hb ∨ i = vm ∨ iv.ownBlock = some i) w w'

set_option maxRecDepth 100000 in
set_option maxHeartbeats 4000000 in
theorem hold46_new (sl ix se te : Int) (hd sr tr : List Value) (fb : Bool) (hA : Arrs hd sr tr) (hb bm vm : Nat) (iv : Value) (items : List (Nat × Value)) (N : Nat) (D : DataW Unit) (w : World) (hH : Hold w hb bm vm iv items N D)
    (law : Keyed Try.prog 69) (kl : Lit) (hkl : keyOf Try.prog 69 (.agg (keyL sl ix se te hd sr tr fb).toArray) = some kl)
    (B : Nat) (va : Option Addr) (n vc : Nat) (X : List Int) (hX : Sl B w va n vc X) (hB : B ≤ w.heap.size) (hn : n ≤ 1000000) (hbv : Maps.has D kl = false) (hpos : 0 < n) (hit : items.length ≤ 1000) (hN : N ≤ 1000) :
    Calls Try.prog 46 #[.pointer (some ⟨hb, 0, none⟩), .agg (attL (.slice va n vc) sl ix se te hd sr tr).toArray, .bool fb] w fun e w' => e = .returned (.int .i64 n) ∧
      ∃ vb fa fc iv', NewVote w w' hb bm vm iv items N D kl (keyL sl ix se te hd sr tr fb) n X vb fa fc iv' := by
  have hpv : ∀ v ps, ptrElem v = some (D.atKey kl .nil, ps) → v = .pointer none := fun v ps h => ptrElem_nil (by rw [atKey_of_not_has hbv] at h; exact h)
  have H := hide (HvFacts.mk' (v := .slice va n vc) (sl := sl) (ix := ix) (se := se) (te := te) (fb := fb) hA)
  have HH := hide hH
  have hc2 := hH.c2
  have hlt : hb < w.heap.size := hH.lt
  have HX := hide (And.intro hX hB)
  clear hA hH hX hB
  go_enter Try.func46, Try.ntmps46
  go_wp2_with (first
    | (with_reducible (show wpList _ _ _ ({ dst := _, op := Op.load 82 _, type := _, pos := _, after := _, guard := _ } :: _) _ _); refine wpList_load_row rfl 82 _ rfl w.heap.size rfl 82 (attL (.slice va n vc) sl ix se te hd sr tr).toArray (0, 0) _ (heap_alloc_new w _) Try.underlying82 rfl (unhide H).s82 ?_; go_frame))
  refine (data53 (.slice va n vc) sl ix se te hd sr tr (unhide H).arr _).mono ?_
  rintro e w1 ⟨rfl, b1⟩
  have hb1 : Below w.heap.size w w1 := ((Below.refl _ _).alloc (Nat.le_refl _) _).trans (b1.mono (by simp))
  have hsz : w.heap.size < w1.heap.size := by have := b1.size; simp at this; omega
  have hg0 : w1.heap[w.heap.size]? = some (.cells (attL (.slice va n vc) sl ix se te hd sr tr).toArray 82 (0, 0)) := by rw [b1.block _ (by simp)]; exact heap_alloc_new w _
  have HW := hide (And.intro hb1 hg0)
  have hc2' : w1.cell? ⟨hb, 2, none⟩ = some (.map (some vm)) := (hb1.cell (p := ⟨hb, 2, none⟩) hlt).trans hc2
  have HO1 := hide ((unhide HH).below hb1).vot
  clear b1 hb1 hg0 hc2
  go_wp2_with (first
    | (with_reducible (show wpList _ _ _ ({ dst := _, op := Op.build 69 _, type := _, pos := _, after := _, guard := _ } :: _) _ _); refine wpList_build_at rfl 69 _ rfl [(0, .agg (datL sl ix se te hd sr tr).toArray), (1, .bool fb)] (by simp [Act.eval]) (keyL sl ix se te hd sr tr fb).toArray (built69 (datL_length (unhide H).arr.l1 (unhide H).arr.l2 (unhide H).arr.l3)) ?_; go_frame)
    | (with_reducible (show wpList _ _ _ ({ dst := _, op := Op.store 69 _ _, type := _, pos := _, after := _, guard := _ } :: _) _ _); refine wpList_store_new rfl 69 _ _ rfl w1.heap.size _ rfl rfl 69 Try.zeroCells69 _ rfl rfl (unhide H).s69 (unhide H).z69 (unhide H).o69 ?_; go_frame))
  have hlook := look77 law ((unhide HO1).alloc (.cells (keyL sl ix se te hd sr tr fb).toArray 69)) hkl hpv
  rw [hbv] at hlook
  have hkh : (w1.alloc (.cells (keyL sl ix se te hd sr tr fb).toArray 69)).heap[w1.heap.size]? = some (.cells (keyL sl ix se te hd sr tr fb).toArray 69 (0, 0)) := heap_alloc_new w1 _
  have hkK := keyL_length (sl := sl) (ix := ix) (se := se) (te := te) (fb := fb) (unhide H).arr
  have hlt1 : hb < w1.heap.size := by omega
  have HKL := hide hkl
  clear hkl hpv hbv
  have hat0 : (attL (.slice va n vc) sl ix se te hd sr tr).toArray[0]? = some (.slice va n vc) := rfl
  have hca : w1.cell? ⟨w.heap.size, 0, none⟩ = some (.slice va n vc) := (cell_of_row w1 _ 0 _ 82 (0, 0) (unhide HW).2).trans hat0
  have HKO := hide (And.intro hkK (unhide H).o69)
  clear hat0 H hkK
  generalize hKe : keyL sl ix se te hd sr tr fb = K at *
  have HKE := hide hKe
  clear hKe
  refine wp_region_quiet_lit (by kernel_rfl) (by kernel_rfl) ?_
  repeat (go_big_quiet_step (fail))
  refine wpQuiet_load_row rfl 69 _ rfl w1.heap.size rfl 69 K.toArray (0, 0) _ (fun w' hw' => by obtain ⟨n, rfl⟩ := hw'; exact hkh) Try.underlying69 rfl (by rw [i69]; simp [(unhide HKO).1]) ?_
  go_frame
  repeat (go_big_quiet_step (fail))
  refine wpQuiet_nil ?_
  intro _ hw'
  obtain ⟨nq, hw''⟩ := hw'
  subst hw''
  clear hlook HO1
  go_wp2_with fail
  refine (clone54 (w := (w1.alloc (.cells K.toArray 69)).drewN nq) (((unhide HX).1.below ((unhide HW).1.mono (unhide HX).2)).below (below_drewN ((Below.refl _ _).alloc (Nat.le_trans (unhide HX).2 (Nat.le_of_lt hsz)) _) nq)) (by have := (unhide HX).2; simp; omega) hn).mono ?_
  rintro e w3 ⟨fa, fc, rfl, hown, hb3⟩
  have hkh3 : w3.heap[w1.heap.size]? = some (.cells K.toArray 69 (0, 0)) := by rw [hb3.block _ (by simp)]; exact hkh
  have hbel : Below w.heap.size w w3 := (unhide HW).1.trans ((below_drewN ((Below.refl _ _).alloc (Nat.le_of_lt hsz) _) nq).trans (hb3.mono (by simp; omega)))
  have hs3 : w1.heap.size < w3.heap.size := by have := hb3.size; simp at this; omega
  have hS3 : Sl w3.heap.size w3 fa n fc X := Sl.of_owns hown (unhide HX).1.u64
  have hfab : ∀ b off, fa = some ⟨b, off, none⟩ → w1.heap.size < b := fun b off e => by subst e; have := (hown.lt b rfl).1; simp at this; omega
  have HB := hide (And.intro hbel hS3)
  have HFAB := hide hfab
  clear hfab
  clear hown hb3 hbel hS3 hca
  have hn0 : ((n : Int) == 0) = false := by rw [beq_eq_false_iff_ne]; omega
  go_wp2_with (first
    | (with_reducible (show wpList _ _ _ ({ dst := _, op := Op.load 69 _, type := _, pos := _, after := _, guard := _ } :: _) _ _); refine wpList_load_row rfl 69 _ rfl w1.heap.size rfl 69 K.toArray (0, 0) _ hkh3 Try.underlying69 rfl (by rw [i69]; simp [(unhide HKO).1]) ?_; go_frame)
    | (with_reducible (show wpList _ _ _ ({ dst := _, op := Op.build 72 _, type := _, pos := _, after := _, guard := _ } :: _) _ _); refine wpList_build_at rfl 72 _ rfl [(0, .agg K.toArray), (1, .slice fa n fc)] (by simp [Act.eval]) (hvCells K (.slice fa n fc) (.map none)).toArray (built72 (unhide HKO).1 rfl) ?_; go_frame))
  have hbW : Below w3.heap.size w3 (w3.alloc (.cells (hvCells K (.slice fa n fc) (.map none)).toArray 72)) := (Below.refl _ _).alloc (Nat.le_refl _) _
  have HHW := (unhide HH).below ((unhide HB).1.trans (hbW.mono (unhide HB).1.size))
  have hvb : (w3.alloc (.cells (hvCells K (.slice fa n fc) (.map none)).toArray 72)).heap[w3.heap.size]? = some (.cells (hvCells K (.slice fa n fc) (.map none)).toArray 72 (0, 0)) := heap_alloc_new w3 _
  have hkW : (w3.alloc (.cells (hvCells K (.slice fa n fc) (.map none)).toArray 72)).heap[w1.heap.size]? = some (.cells K.toArray 69 (0, 0)) := by rw [hbW.block _ hs3]; exact hkh3
  have hWs : w3.heap.size < (w3.alloc (.cells (hvCells K (.slice fa n fc) (.map none)).toArray 72)).heap.size := by simp
  have hSW := (unhide HB).2.below hbW
  have hKW : Below w.heap.size w (w3.alloc (.cells (hvCells K (.slice fa n fc) (.map none)).toArray 72)) := (unhide HB).1.trans (hbW.mono (unhide HB).1.size)
  have HV := hide (And.intro hvb (And.intro hkW (And.intro hSW hKW)))
  have hws3 := (unhide HB).1.size
  have hivlt : ∀ i, iv.ownBlock = some i → i < w.heap.size := fun i hi => ((unhide HH).rows.lt i hi).2
  have HIV := hide hivlt
  clear hbW hvb hkW hSW hKW HB HH HW hkh hkh3 hc2' HX hivlt
  generalize w3.alloc (.cells (hvCells K (.slice fa n fc) (.map none)).toArray 72) = W at *
  generalize w3.heap.size = vb at *
  generalize w1.heap.size = kb at *
  have hc0 := HHW.c0
  have hf0 := HHW.f0
  have hltW := HHW.lt
  have hrows := HHW.rows
  have hag : iv.ownBlock ≠ some hb := fun e => by have := (HHW.rows.lt hb e).1; omega
  have HHW' := hide HHW
  clear HHW
  generalize hil : items.length = il at *
  have HIL := hide hil
  clear hil
  obtain ⟨i0, hi0, hz0, hz1, hz2⟩ := info_parts Try.info91
  have hA1' : ∀ o, (W.alloc o).cell? ⟨hb, 0, none⟩ = some iv := (fun o => (((Below.refl _ _).alloc (Nat.le_refl _) o).cell (p := ⟨hb, 0, none⟩) hltW).trans hc0)
  have hA1 := hide hA1'
  have hA2 : Hid (∀ o, (W.alloc o).frozen? ⟨hb, 0, none⟩ = false) := hide (fun o => (((Below.refl _ _).alloc (Nat.le_refl _) o).frozen (p := ⟨hb, 0, none⟩) hltW).trans hf0)
  go_region_law (refine step_append_lies _ (by rfl) _ _ _ (by rfl) (hb + 1) 91 i0 _ 3 40 Try.underlying78 hi0 hz0 hz1 hz2 rfl (by omega) iv il (itemCells items) (by rfl) ((hrows.alloc _).drew) ⟨W.heap.size, 0, none⟩ 1 1 [.pointer none, .pointer (some ⟨vb, 0, none⟩), .slice fa n fc] (by rfl) (by rfl) (World.news_of_block (cs := #[.pointer none, .pointer (some ⟨vb, 0, none⟩), .slice fa n fc]) (t := 91) (fr := (0, 0)) (heap_alloc_new W _)) (by simp [Value.oneCell']) (by omega) (by unfold maxLen; omega) (by omega) (by simp; omega) (W.heap.size + 1) (by simp) ?_; intro g cap w4 hown4 hgrow hat hlt4; have hc4 := (hgrow.cell_far ⟨hb, 0, none⟩ (by simp; omega) (Ne.symm hag)).trans (unhide hA1 _); have hf4 := (hgrow.frozen_far ⟨hb, 0, none⟩ (by simp; omega) (Ne.symm hag)).trans (unhide hA2 _)) 
  all_goals
    have hWa : Below W.heap.size W ((W.alloc (.cells #[.pointer none, .pointer (some ⟨vb, 0, none⟩), .slice fa n fc] 91)).drew) := ((Below.refl _ _).alloc (Nat.le_refl _) _).drew
    obtain ⟨HH5, hK5⟩ := Hold.appended (unhide HHW') hWa hgrow (by rw [unhide HIL]; exact hown4)
    rw [unhide HIL] at HH5 hK5
    have hg5 : (iv.ownBlock = some g ∨ vb < g) := by
      rcases hat with h | h
      · exact .inl h
      · exact .inr (by omega)
    clear hWa hown4 hgrow hat hlt4 hc4 hf4 hA1 hA1' hA2 hrows hc0 hf0 HHW'
    have hkne : ¬ (kb = hb ∨ iv.ownBlock = some kb) := by
      rintro (h | h)
      · omega
      · have := unhide HIV kb h; omega
    have hvne : ¬ (vb = hb ∨ iv.ownBlock = some vb) := by
      rintro (h | h)
      · omega
      · have := unhide HIV vb h; omega
    have hkW5 := (hK5.block kb (by omega) hkne).trans (unhide HV).2.1
    have hvW5 := (hK5.block vb hWs hvne).trans (unhide HV).1
    generalize w4.setCell ⟨hb, 0, none⟩ (.slice (some ⟨g, 0, none⟩) (il + 1) cap) = W5 at *
    obtain ⟨w6, hrun, hown6, hgrow6⟩ := HH5.vot.drew.update law Try.underlying77 (by unfold maxLen; omega) (unhide HKL) (ptrElem_mk vb)
    have hc25 : W5.cell? ⟨hb, 2, none⟩ = some (.map (some vm)) := HH5.c2
    have l2 := HH5.lt2
    have hbs : hb < W5.heap.size := HH5.lt
    have hkd : W5.drew.heap[kb]? = some (.cells K.toArray 69 (0, 0)) := hkW5
    have hvb6 : w6.heap[vb]? = some (.cells (hvCells K (.slice fa n fc) (.map none)).toArray 72 (0, 0)) := by
      rw [hgrow6.block vb (by show vb < W5.heap.size; exact (Array.getElem?_eq_some_iff.1 hvW5).1) (by simp; omega)]
      exact hvW5
    have hfin := hide (And.intro HH5 (And.intro hK5 (And.intro hown6 (And.intro hgrow6 hvb6))))
    have hKl : K.length = 101 := (unhide HKO).1
    clear HH5 hK5 hown6 hgrow6 hvb6 hkW5 hvW5
    go_wp2_with fail
    refine wp_region_still_tail 6 (by kernel_rfl) (by kernel_rfl) ?_
    simp only [List.take_succ_cons, List.take_zero, List.drop_succ_cons, List.drop_zero]
    change wpStill _ _ W5.drew (fun a' => wpList _ _ _ _ a' W5.drew) _ _
    still_step
    still_step
    still_step
    still_step
    refine wpStill_load_row rfl 69 _ rfl kb rfl 69 K.toArray (0, 0) _ hkd Try.underlying69 rfl (by rw [i69]; simp [hKl]) ?_
    go_frame
    still_step
    refine wpStill_nil ?_
    go_wp2
    go_ret
    obtain ⟨HH5, hK5, hown6, hgrow6, hvb6⟩ := unhide hfin
    obtain ⟨_, _, hSW, hKW⟩ := unhide HV
    have hgrow6' : W5.grownBy w6 (some vm) := ⟨hgrow6.os, hgrow6.tape, hgrow6.output, hgrow6.size, hgrow6.block⟩
    have hk56 : Keep (fun i => i = hb ∨ i = vm ∨ iv.ownBlock = some i) W w6 := by
      refine Keep.trans (S := fun i => i = hb ∨ i = vm ∨ iv.ownBlock = some i) ⟨hK5.os, hK5.tape, hK5.output, hK5.size, fun k hk hne => hK5.block k hk (fun e => hne (by rcases e with e | e; exact .inl e; exact .inr (.inr e)))⟩ (Keep.of_grown hgrow6') (fun i _ hi => .inr (.inl (by simpa using hi.symm)))
    have hlen : X.length = n := hSW.len
    refine ⟨rfl, vb, fa, fc, .slice (some ⟨g, 0, none⟩) (il + 1) cap, ⟨HH5.stored hgrow6' hown6, ?_, by rw [unhide HKE]; exact hvb6, by omega, (fun b off e => by have := unhide HFAB b off e; omega), ?_, (Keep.of_below hKW).trans hk56 (fun i _ hi => hi)⟩⟩
    · refine Held.of_block hvb6 ?_ ?_ ?_ (fun _ => rfl) (fun mb e => by cases e)
      · rw [hlen]
        simp [hvCells, hKl]
      · simp [hvCells, hKl]
      · rw [hlen]
        refine hSW.keep hk56 (fun b off e => ?_)
        have hb1 := unhide HFAB b off e
        rintro (h | h | h)
        · omega
        · omega
        · have := unhide HIV b h
          omega
    · intro k hk
      cases hk
      exact hg5

end Go.Proofs.Qxb6603397a

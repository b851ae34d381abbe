/-
  ZZHoldingItemVote, walked.
-/
import Derived.Test.Qxb6603397aProbe3
import Derived.Maps.RangeWalk
namespace Go.Proofs.Qxb6603397a
open Go.RowKit Go.Maps

theorem VoteFacts.keep {S : Nat → Prop} {w w' : World} {vb : Nat} {sl ix se te : Int} {hd sr tr : List Value} {fb : Bool} (h : VoteFacts w vb sl ix se te hd sr tr fb) (hk : Keep S w w') (hs : ¬ S vb) : VoteFacts w' vb sl ix se te hd sr tr fb := by
  have hv : vb < w.heap.size := World.block_lt_of_cell? w _ h.c0
  have hc : ∀ o, w'.cell? ⟨vb, o, none⟩ = w.cell? ⟨vb, o, none⟩ := fun o => hk.cell (p := ⟨vb, o, none⟩) hv hs
  exact ⟨(hc _).trans h.c0, (hc _).trans h.c1, (fun j v hj => (hc _).trans (h.r2 j v hj)), (hc _).trans h.c34, (fun j v hj => (hc _).trans (h.r35 j v hj)), (hc _).trans h.c67, (fun j v hj => (hc _).trans (h.r68 j v hj)), (hc _).trans h.c100⟩

/-- A row laid over a block's cells, by one operation: the world behind it, told by what it keeps. -/
theorem wp_store_any {P : Program} {o : Oper} {a : Act} {w : World} {K : Act → World → Prop} {Q : Exit → Act → World → Prop} (ty : TypeId) (x y : Operand) (ho : o.op = .store ty x y)
    (g : Nat) (cells : Array Value) (hx : a.eval x = .pointer (some ⟨g, 0, none⟩)) (hy : a.eval y = .agg cells) (t : TypeId) (old : Array Value) (hg : w.heap[g]? = some (.cells old t (0, 0)))
    (hi : (P.info? ty).map (·.size) = some cells.size) (hold : old.size = cells.size) (h1 : cells.all (·.oneCell') = true)
    (h : ∀ w', Keep (fun i => i = g) w w' → w'.heap.size = w.heap.size → w'.heap[g]? = some (.cells cells t (0, 0)) → K (a.put o.dst undef) w') : o.wp P a w K Q := by
  refine wp_store_row ty x y ho g cells hx hy t old hg hi hold h1 (h _ ⟨rfl, rfl, rfl, ?_, ?_⟩ ?_ (setRow_heap w g old cells t (0, 0) hg))
  · simp [World.setRow]
  · intro k hk hne
    simp [World.setRow, Array.getElem?_modify, Ne.symm hne]
  · simp [World.setRow]

/-- Eight results, three of them out of cells. -/
theorem results8 {P : Program} {fn : Func} {t0 t1 p2 t3 p4 t5 p6 t7 : Tmp} {ty : TypeId} (h : fn.results = #[.tmp t0, .tmp t1, .cell p2 ty, .tmp t3, .cell p4 ty, .tmp t5, .cell p6 ty, .tmp t7]) (tmps : Array Value) (w : World) (g2 g4 g6 : Nat) (y2 y4 y6 : TypeId) (cs2 cs4 cs6 : Array Value) (fr2 fr4 fr6 : Nat × Nat) (d : TypeDesc)
    (hp2 : tmps.getD p2 undef = .pointer (some ⟨g2, 0, none⟩)) (hp4 : tmps.getD p4 undef = .pointer (some ⟨g4, 0, none⟩)) (hp6 : tmps.getD p6 undef = .pointer (some ⟨g6, 0, none⟩))
    (hg2 : w.heap[g2]? = some (.cells cs2 y2 fr2)) (hg4 : w.heap[g4]? = some (.cells cs4 y4 fr4)) (hg6 : w.heap[g6]? = some (.cells cs6 y6 fr6))
    (hu : P.underlying ty = some d) (hd : (match d with | .struct _ | .array _ _ => true | _ => false) = true) (hi2 : (P.info? ty).map (·.size) = some cs2.size) (hi4 : (P.info? ty).map (·.size) = some cs4.size) (hi6 : (P.info? ty).map (·.size) = some cs6.size) :
    (results fn tmps).run P w = .ok (.tuple #[tmps.getD t0 undef, tmps.getD t1 undef, .agg cs2, tmps.getD t3 undef, .agg cs4, tmps.getD t5 undef, .agg cs6, tmps.getD t7 undef]) w := by
  have hp2' : tmps[p2]?.getD undef = .pointer (some ⟨g2, 0, none⟩) := by simpa using hp2
  have hp4' : tmps[p4]?.getD undef = .pointer (some ⟨g4, 0, none⟩) := by simpa using hp4
  have hp6' : tmps[p6]?.getD undef = .pointer (some ⟨g6, 0, none⟩) := by simpa using hp6
  simp [results, h, hp2', hp4', hp6', asAddr, run_loadVar_row w g2 y2 ty cs2 fr2 d hg2 hu hd hi2, run_loadVar_row w g4 y4 ty cs4 fr4 d hg4 hu hd hi4, run_loadVar_row w g6 y6 ty cs6 fr6 d hg6 hu hd hi6]

section
variable {w : World} {hb g n c k vb : Nat} {sv : Value}

set_option linter.unusedSimpArgs false in
set_option maxHeartbeats 8000000 in
set_option maxRecDepth 100000 in
theorem itemVote50 (h : ItemAt w hb g n c k vb sv) (sl ix se te : Int) (hd sr tr : List Value) (fb : Bool) (hA : Arrs hd sr tr) (hK : w.rangeAt vb 0 (keyL sl ix se te hd sr tr fb)) (hv : vb < w.heap.size) (hlt : hb < w.heap.size) (hgl : g < w.heap.size) :
    Calls Try.prog 50 #[.pointer (some ⟨hb, 0, none⟩), .int .i64 k] w fun e w' => e = .returned (.tuple #[.int .u64 sl, .int .u64 ix, .agg hd.toArray, .int .u64 se, .agg sr.toArray, .int .u64 te, .agg tr.toArray, .bool fb]) ∧ Below w.heap.size w w' := by
  have c0 := h.c0
  have lt := h.lt
  have i1 := h.i1
  have c0' : ∀ o1 o2 o3, (((w.alloc o1).alloc o2).alloc o3).cell? ⟨hb, 0, none⟩ = some (.slice (some ⟨g, 0, none⟩) n c) := fun o1 o2 o3 => by
    rw [Below.cell ((((Below.refl w.heap.size w).alloc (Nat.le_refl _) o1).alloc (by simp) o2).alloc (by simp; omega) o3) (p := ⟨hb, 0, none⟩) hlt]; exact c0
  have i1' : ∀ o1 o2 o3, (((w.alloc o1).alloc o2).alloc o3).cell? ⟨g, k * 3 + 1, none⟩ = some (.pointer (some ⟨vb, 0, none⟩)) := fun o1 o2 o3 => by
    rw [Below.cell ((((Below.refl w.heap.size w).alloc (Nat.le_refl _) o1).alloc (by simp) o2).alloc (by simp; omega) o3) (p := ⟨g, k * 3 + 1, none⟩) hgl]; exact i1
  have HF := hide (VoteFacts.mk' hA hK)
  have HA := hide hA
  clear h hK hA
  go_enter Try.func50, Try.ntmps50
  go_wp2_with fail
  clear c0' i1'
  obtain ⟨x, hx⟩ : ∃ x, x = ((w.alloc (.cells #[.int .u8 0, .int .u8 0, .int .u8 0, .int .u8 0, .int .u8 0, .int .u8 0, .int .u8 0, .int .u8 0, .int .u8 0, .int .u8 0, .int .u8 0, .int .u8 0, .int .u8 0, .int .u8 0, .int .u8 0, .int .u8 0, .int .u8 0, .int .u8 0, .int .u8 0, .int .u8 0, .int .u8 0, .int .u8 0, .int .u8 0, .int .u8 0, .int .u8 0, .int .u8 0, .int .u8 0, .int .u8 0, .int .u8 0, .int .u8 0, .int .u8 0, .int .u8 0] 48)).alloc (.cells #[.int .u8 0, .int .u8 0, .int .u8 0, .int .u8 0, .int .u8 0, .int .u8 0, .int .u8 0, .int .u8 0, .int .u8 0, .int .u8 0, .int .u8 0, .int .u8 0, .int .u8 0, .int .u8 0, .int .u8 0, .int .u8 0, .int .u8 0, .int .u8 0, .int .u8 0, .int .u8 0, .int .u8 0, .int .u8 0, .int .u8 0, .int .u8 0, .int .u8 0, .int .u8 0, .int .u8 0, .int .u8 0, .int .u8 0, .int .u8 0, .int .u8 0, .int .u8 0] 48)).alloc (.cells #[.int .u8 0, .int .u8 0, .int .u8 0, .int .u8 0, .int .u8 0, .int .u8 0, .int .u8 0, .int .u8 0, .int .u8 0, .int .u8 0, .int .u8 0, .int .u8 0, .int .u8 0, .int .u8 0, .int .u8 0, .int .u8 0, .int .u8 0, .int .u8 0, .int .u8 0, .int .u8 0, .int .u8 0, .int .u8 0, .int .u8 0, .int .u8 0, .int .u8 0, .int .u8 0, .int .u8 0, .int .u8 0, .int .u8 0, .int .u8 0, .int .u8 0, .int .u8 0] 48) := ⟨_, rfl⟩
  rw [← hx]
  have Bx0a : x.drew.heap[w.heap.size]? = some (.cells #[.int .u8 0, .int .u8 0, .int .u8 0, .int .u8 0, .int .u8 0, .int .u8 0, .int .u8 0, .int .u8 0, .int .u8 0, .int .u8 0, .int .u8 0, .int .u8 0, .int .u8 0, .int .u8 0, .int .u8 0, .int .u8 0, .int .u8 0, .int .u8 0, .int .u8 0, .int .u8 0, .int .u8 0, .int .u8 0, .int .u8 0, .int .u8 0, .int .u8 0, .int .u8 0, .int .u8 0, .int .u8 0, .int .u8 0, .int .u8 0, .int .u8 0, .int .u8 0] 48 (0, 0)) := by rw [hx]; exact heap3_0 w _ _ _
  have Bx0b : x.drew.heap[w.heap.size + 1]? = some (.cells #[.int .u8 0, .int .u8 0, .int .u8 0, .int .u8 0, .int .u8 0, .int .u8 0, .int .u8 0, .int .u8 0, .int .u8 0, .int .u8 0, .int .u8 0, .int .u8 0, .int .u8 0, .int .u8 0, .int .u8 0, .int .u8 0, .int .u8 0, .int .u8 0, .int .u8 0, .int .u8 0, .int .u8 0, .int .u8 0, .int .u8 0, .int .u8 0, .int .u8 0, .int .u8 0, .int .u8 0, .int .u8 0, .int .u8 0, .int .u8 0, .int .u8 0, .int .u8 0] 48 (0, 0)) := by rw [hx]; exact heap3_1 w _ _ _
  have Bx0c : x.drew.heap[w.heap.size + 1 + 1]? = some (.cells #[.int .u8 0, .int .u8 0, .int .u8 0, .int .u8 0, .int .u8 0, .int .u8 0, .int .u8 0, .int .u8 0, .int .u8 0, .int .u8 0, .int .u8 0, .int .u8 0, .int .u8 0, .int .u8 0, .int .u8 0, .int .u8 0, .int .u8 0, .int .u8 0, .int .u8 0, .int .u8 0, .int .u8 0, .int .u8 0, .int .u8 0, .int .u8 0, .int .u8 0, .int .u8 0, .int .u8 0, .int .u8 0, .int .u8 0, .int .u8 0, .int .u8 0, .int .u8 0] 48 (0, 0)) := by rw [hx]; exact heap3_2 w _ _ _
  have hsz : x.drew.heap.size = w.heap.size + 3 := by rw [hx]; simp
  have bel : Below w.heap.size w x.drew := by rw [hx]; exact ((((Below.refl w.heap.size w).alloc (Nat.le_refl _) _).alloc (by simp) _).alloc (by simp; omega) _).drew
  have hf := (unhide HF).below bel hv
  clear hx HF
  refine wp_region_noPanic ?_
  refine wp_region_held_drew (S := fun w' => VoteFacts w' vb sl ix se te hd sr tr fb) (by as_aux_lemma => kernel_rfl) hf (fun hHeld => ?_)
  clear hf
  refine wpAnyH_take (i := 0) (v := .pointer (some ⟨vb, 0, none⟩)) rfl (by as_aux_lemma => kernel_rfl) (by as_aux_lemma => kernel_rfl) (by as_aux_lemma => kernel_rfl) (fun _ _ _ h => h) (Or.inl ⟨by rfl, ?_⟩) hHeld ?_
  · intro w' hSw; clear hSw; go_simp
  simp only [List.getElem_toArray, List.getElem_cons_succ, List.getElem_cons_zero, Act.put, List.setIfInBounds_toArray, List.set_cons_zero, List.set_cons_succ]
  refine wpAnyH_take (i := 1) (v := .pointer (some ⟨vb, 0, none⟩)) rfl (by as_aux_lemma => kernel_rfl) (by as_aux_lemma => kernel_rfl) (by as_aux_lemma => kernel_rfl) (fun _ _ _ h => h) (Or.inl ⟨by rfl, ?_⟩) hHeld ?_
  · intro w' hSw; clear hSw; go_simp
  simp only [List.getElem_toArray, List.getElem_cons_succ, List.getElem_cons_zero, Act.put, List.setIfInBounds_toArray, List.set_cons_zero, List.set_cons_succ]
  refine wpAnyH_take (i := 2) (v := .pointer (some ⟨vb, 0, none⟩)) rfl (by as_aux_lemma => kernel_rfl) (by as_aux_lemma => kernel_rfl) (by as_aux_lemma => kernel_rfl) (fun _ _ _ h => h) (Or.inl ⟨by rfl, ?_⟩) hHeld ?_
  · intro w' hSw; clear hSw; go_simp
  simp only [List.getElem_toArray, List.getElem_cons_succ, List.getElem_cons_zero, Act.put, List.setIfInBounds_toArray, List.set_cons_zero, List.set_cons_succ]
  refine wpAnyH_take (i := 3) (v := .pointer (some ⟨vb, 0, none⟩)) rfl (by as_aux_lemma => kernel_rfl) (by as_aux_lemma => kernel_rfl) (by as_aux_lemma => kernel_rfl) (fun _ _ _ h => h) (Or.inl ⟨by rfl, ?_⟩) hHeld ?_
  · intro w' hSw; clear hSw; go_simp
  simp only [List.getElem_toArray, List.getElem_cons_succ, List.getElem_cons_zero, Act.put, List.setIfInBounds_toArray, List.set_cons_zero, List.set_cons_succ]
  refine wpAnyH_take (i := 4) (v := .int .u64 sl) rfl (by as_aux_lemma => kernel_rfl) (by as_aux_lemma => kernel_rfl) (by as_aux_lemma => kernel_rfl) (fun _ _ _ h => h) (Or.inl ⟨by rfl, ?_⟩) hHeld ?_
  · intro w' hSw; have hcc := VoteFacts.c0 hSw; clear hSw; go_simp
  simp only [List.getElem_toArray, List.getElem_cons_succ, List.getElem_cons_zero, Act.put, List.setIfInBounds_toArray, List.set_cons_zero, List.set_cons_succ]
  refine wpAnyH_take (i := 5) (v := .pointer (some ⟨vb, 0, none⟩)) rfl (by as_aux_lemma => kernel_rfl) (by as_aux_lemma => kernel_rfl) (by as_aux_lemma => kernel_rfl) (fun _ _ _ h => h) (Or.inl ⟨by rfl, ?_⟩) hHeld ?_
  · intro w' hSw; clear hSw; go_simp
  simp only [List.getElem_toArray, List.getElem_cons_succ, List.getElem_cons_zero, Act.put, List.setIfInBounds_toArray, List.set_cons_zero, List.set_cons_succ]
  refine wpAnyH_take (i := 6) (v := .pointer (some ⟨vb, 0, none⟩)) rfl (by as_aux_lemma => kernel_rfl) (by as_aux_lemma => kernel_rfl) (by as_aux_lemma => kernel_rfl) (fun _ _ _ h => h) (Or.inl ⟨by rfl, ?_⟩) hHeld ?_
  · intro w' hSw; clear hSw; go_simp
  simp only [List.getElem_toArray, List.getElem_cons_succ, List.getElem_cons_zero, Act.put, List.setIfInBounds_toArray, List.set_cons_zero, List.set_cons_succ]
  refine wpAnyH_take (i := 7) (v := .pointer (some ⟨vb, 0, none⟩)) rfl (by as_aux_lemma => kernel_rfl) (by as_aux_lemma => kernel_rfl) (by as_aux_lemma => kernel_rfl) (fun _ _ _ h => h) (Or.inl ⟨by rfl, ?_⟩) hHeld ?_
  · intro w' hSw; clear hSw; go_simp
  simp only [List.getElem_toArray, List.getElem_cons_succ, List.getElem_cons_zero, Act.put, List.setIfInBounds_toArray, List.set_cons_zero, List.set_cons_succ]
  refine wpAnyH_take (i := 8) (v := .pointer (some ⟨vb, 1, none⟩)) rfl (by as_aux_lemma => kernel_rfl) (by as_aux_lemma => kernel_rfl) (by as_aux_lemma => kernel_rfl) (fun _ _ _ h => h) (Or.inl ⟨by rfl, ?_⟩) hHeld ?_
  · intro w' hSw; clear hSw; go_simp
  simp only [List.getElem_toArray, List.getElem_cons_succ, List.getElem_cons_zero, Act.put, List.setIfInBounds_toArray, List.set_cons_zero, List.set_cons_succ]
  refine wpAnyH_take (i := 9) (v := .int .u64 ix) rfl (by as_aux_lemma => kernel_rfl) (by as_aux_lemma => kernel_rfl) (by as_aux_lemma => kernel_rfl) (fun _ _ _ h => h) (Or.inl ⟨by rfl, ?_⟩) hHeld ?_
  · intro w' hSw; have hcc := VoteFacts.c1 hSw; clear hSw; go_simp
  simp only [List.getElem_toArray, List.getElem_cons_succ, List.getElem_cons_zero, Act.put, List.setIfInBounds_toArray, List.set_cons_zero, List.set_cons_succ]
  refine wpAnyH_take (i := 10) (v := .pointer (some ⟨vb, 0, none⟩)) rfl (by as_aux_lemma => kernel_rfl) (by as_aux_lemma => kernel_rfl) (by as_aux_lemma => kernel_rfl) (fun _ _ _ h => h) (Or.inl ⟨by rfl, ?_⟩) hHeld ?_
  · intro w' hSw; clear hSw; go_simp
  simp only [List.getElem_toArray, List.getElem_cons_succ, List.getElem_cons_zero, Act.put, List.setIfInBounds_toArray, List.set_cons_zero, List.set_cons_succ]
  refine wpAnyH_take (i := 11) (v := .pointer (some ⟨vb, 0, none⟩)) rfl (by as_aux_lemma => kernel_rfl) (by as_aux_lemma => kernel_rfl) (by as_aux_lemma => kernel_rfl) (fun _ _ _ h => h) (Or.inl ⟨by rfl, ?_⟩) hHeld ?_
  · intro w' hSw; clear hSw; go_simp
  simp only [List.getElem_toArray, List.getElem_cons_succ, List.getElem_cons_zero, Act.put, List.setIfInBounds_toArray, List.set_cons_zero, List.set_cons_succ]
  refine wpAnyH_take (i := 12) (v := .pointer (some ⟨vb, 0, none⟩)) rfl (by as_aux_lemma => kernel_rfl) (by as_aux_lemma => kernel_rfl) (by as_aux_lemma => kernel_rfl) (fun _ _ _ h => h) (Or.inl ⟨by rfl, ?_⟩) hHeld ?_
  · intro w' hSw; clear hSw; go_simp
  simp only [List.getElem_toArray, List.getElem_cons_succ, List.getElem_cons_zero, Act.put, List.setIfInBounds_toArray, List.set_cons_zero, List.set_cons_succ]
  refine wpAnyH_take (i := 13) (v := .pointer (some ⟨vb, 2, none⟩)) rfl (by as_aux_lemma => kernel_rfl) (by as_aux_lemma => kernel_rfl) (by as_aux_lemma => kernel_rfl) (fun _ _ _ h => h) (Or.inl ⟨by rfl, ?_⟩) hHeld ?_
  · intro w' hSw; clear hSw; go_simp
  simp only [List.getElem_toArray, List.getElem_cons_succ, List.getElem_cons_zero, Act.put, List.setIfInBounds_toArray, List.set_cons_zero, List.set_cons_succ]
  refine wpAnyH_take (i := 14) (v := .agg hd.toArray) rfl (by as_aux_lemma => kernel_rfl) (by as_aux_lemma => kernel_rfl) (by as_aux_lemma => kernel_rfl) (fun _ _ _ h => h) (yieldsIf_load_mid (by rfl) 59 _ rfl vb 2 rfl hd _ (fun _ h => VoteFacts.r2 h) Try.underlying59 rfl (by rw [i59, (unhide HA).l1])) hHeld ?_
  simp only [List.getElem_toArray, List.getElem_cons_succ, List.getElem_cons_zero, Act.put, List.setIfInBounds_toArray, List.set_cons_zero, List.set_cons_succ]
  refine wpAnyH_take (i := 15) (v := .pointer (some ⟨vb, 0, none⟩)) rfl (by as_aux_lemma => kernel_rfl) (by as_aux_lemma => kernel_rfl) (by as_aux_lemma => kernel_rfl) (fun _ _ _ h => h) (Or.inl ⟨by rfl, ?_⟩) hHeld ?_
  · intro w' hSw; clear hSw; go_simp
  simp only [List.getElem_toArray, List.getElem_cons_succ, List.getElem_cons_zero, Act.put, List.setIfInBounds_toArray, List.set_cons_zero, List.set_cons_succ]
  refine wpAnyH_take (i := 16) (v := .pointer (some ⟨vb, 0, none⟩)) rfl (by as_aux_lemma => kernel_rfl) (by as_aux_lemma => kernel_rfl) (by as_aux_lemma => kernel_rfl) (fun _ _ _ h => h) (Or.inl ⟨by rfl, ?_⟩) hHeld ?_
  · intro w' hSw; clear hSw; go_simp
  simp only [List.getElem_toArray, List.getElem_cons_succ, List.getElem_cons_zero, Act.put, List.setIfInBounds_toArray, List.set_cons_zero, List.set_cons_succ]
  refine wpAnyH_take (i := 17) (v := .pointer (some ⟨vb, 0, none⟩)) rfl (by as_aux_lemma => kernel_rfl) (by as_aux_lemma => kernel_rfl) (by as_aux_lemma => kernel_rfl) (fun _ _ _ h => h) (Or.inl ⟨by rfl, ?_⟩) hHeld ?_
  · intro w' hSw; clear hSw; go_simp
  simp only [List.getElem_toArray, List.getElem_cons_succ, List.getElem_cons_zero, Act.put, List.setIfInBounds_toArray, List.set_cons_zero, List.set_cons_succ]
  refine wpAnyH_take (i := 18) (v := .pointer (some ⟨vb, 34, none⟩)) rfl (by as_aux_lemma => kernel_rfl) (by as_aux_lemma => kernel_rfl) (by as_aux_lemma => kernel_rfl) (fun _ _ _ h => h) (Or.inl ⟨by rfl, ?_⟩) hHeld ?_
  · intro w' hSw; clear hSw; go_simp
  simp only [List.getElem_toArray, List.getElem_cons_succ, List.getElem_cons_zero, Act.put, List.setIfInBounds_toArray, List.set_cons_zero, List.set_cons_succ]
  refine wpAnyH_take (i := 19) (v := .pointer (some ⟨vb, 34, none⟩)) rfl (by as_aux_lemma => kernel_rfl) (by as_aux_lemma => kernel_rfl) (by as_aux_lemma => kernel_rfl) (fun _ _ _ h => h) (Or.inl ⟨by rfl, ?_⟩) hHeld ?_
  · intro w' hSw; clear hSw; go_simp
  simp only [List.getElem_toArray, List.getElem_cons_succ, List.getElem_cons_zero, Act.put, List.setIfInBounds_toArray, List.set_cons_zero, List.set_cons_succ]
  refine wpAnyH_take (i := 20) (v := .int .u64 se) rfl (by as_aux_lemma => kernel_rfl) (by as_aux_lemma => kernel_rfl) (by as_aux_lemma => kernel_rfl) (fun _ _ _ h => h) (Or.inl ⟨by rfl, ?_⟩) hHeld ?_
  · intro w' hSw; have hcc := VoteFacts.c34 hSw; clear hSw; go_simp
  simp only [List.getElem_toArray, List.getElem_cons_succ, List.getElem_cons_zero, Act.put, List.setIfInBounds_toArray, List.set_cons_zero, List.set_cons_succ]
  refine wpAnyH_take (i := 21) (v := .pointer (some ⟨vb, 0, none⟩)) rfl (by as_aux_lemma => kernel_rfl) (by as_aux_lemma => kernel_rfl) (by as_aux_lemma => kernel_rfl) (fun _ _ _ h => h) (Or.inl ⟨by rfl, ?_⟩) hHeld ?_
  · intro w' hSw; clear hSw; go_simp
  simp only [List.getElem_toArray, List.getElem_cons_succ, List.getElem_cons_zero, Act.put, List.setIfInBounds_toArray, List.set_cons_zero, List.set_cons_succ]
  refine wpAnyH_take (i := 22) (v := .pointer (some ⟨vb, 0, none⟩)) rfl (by as_aux_lemma => kernel_rfl) (by as_aux_lemma => kernel_rfl) (by as_aux_lemma => kernel_rfl) (fun _ _ _ h => h) (Or.inl ⟨by rfl, ?_⟩) hHeld ?_
  · intro w' hSw; clear hSw; go_simp
  simp only [List.getElem_toArray, List.getElem_cons_succ, List.getElem_cons_zero, Act.put, List.setIfInBounds_toArray, List.set_cons_zero, List.set_cons_succ]
  refine wpAnyH_take (i := 23) (v := .pointer (some ⟨vb, 0, none⟩)) rfl (by as_aux_lemma => kernel_rfl) (by as_aux_lemma => kernel_rfl) (by as_aux_lemma => kernel_rfl) (fun _ _ _ h => h) (Or.inl ⟨by rfl, ?_⟩) hHeld ?_
  · intro w' hSw; clear hSw; go_simp
  simp only [List.getElem_toArray, List.getElem_cons_succ, List.getElem_cons_zero, Act.put, List.setIfInBounds_toArray, List.set_cons_zero, List.set_cons_succ]
  refine wpAnyH_take (i := 24) (v := .pointer (some ⟨vb, 34, none⟩)) rfl (by as_aux_lemma => kernel_rfl) (by as_aux_lemma => kernel_rfl) (by as_aux_lemma => kernel_rfl) (fun _ _ _ h => h) (Or.inl ⟨by rfl, ?_⟩) hHeld ?_
  · intro w' hSw; clear hSw; go_simp
  simp only [List.getElem_toArray, List.getElem_cons_succ, List.getElem_cons_zero, Act.put, List.setIfInBounds_toArray, List.set_cons_zero, List.set_cons_succ]
  refine wpAnyH_take (i := 25) (v := .pointer (some ⟨vb, 35, none⟩)) rfl (by as_aux_lemma => kernel_rfl) (by as_aux_lemma => kernel_rfl) (by as_aux_lemma => kernel_rfl) (fun _ _ _ h => h) (Or.inl ⟨by rfl, ?_⟩) hHeld ?_
  · intro w' hSw; clear hSw; go_simp
  simp only [List.getElem_toArray, List.getElem_cons_succ, List.getElem_cons_zero, Act.put, List.setIfInBounds_toArray, List.set_cons_zero, List.set_cons_succ]
  refine wpAnyH_take (i := 26) (v := .agg sr.toArray) rfl (by as_aux_lemma => kernel_rfl) (by as_aux_lemma => kernel_rfl) (by as_aux_lemma => kernel_rfl) (fun _ _ _ h => h) (yieldsIf_load_mid (by rfl) 59 _ rfl vb 35 rfl sr _ (fun _ h => VoteFacts.r35 h) Try.underlying59 rfl (by rw [i59, (unhide HA).l2])) hHeld ?_
  simp only [List.getElem_toArray, List.getElem_cons_succ, List.getElem_cons_zero, Act.put, List.setIfInBounds_toArray, List.set_cons_zero, List.set_cons_succ]
  refine wpAnyH_take (i := 27) (v := .pointer (some ⟨vb, 0, none⟩)) rfl (by as_aux_lemma => kernel_rfl) (by as_aux_lemma => kernel_rfl) (by as_aux_lemma => kernel_rfl) (fun _ _ _ h => h) (Or.inl ⟨by rfl, ?_⟩) hHeld ?_
  · intro w' hSw; clear hSw; go_simp
  simp only [List.getElem_toArray, List.getElem_cons_succ, List.getElem_cons_zero, Act.put, List.setIfInBounds_toArray, List.set_cons_zero, List.set_cons_succ]
  refine wpAnyH_take (i := 28) (v := .pointer (some ⟨vb, 0, none⟩)) rfl (by as_aux_lemma => kernel_rfl) (by as_aux_lemma => kernel_rfl) (by as_aux_lemma => kernel_rfl) (fun _ _ _ h => h) (Or.inl ⟨by rfl, ?_⟩) hHeld ?_
  · intro w' hSw; clear hSw; go_simp
  simp only [List.getElem_toArray, List.getElem_cons_succ, List.getElem_cons_zero, Act.put, List.setIfInBounds_toArray, List.set_cons_zero, List.set_cons_succ]
  refine wpAnyH_take (i := 29) (v := .pointer (some ⟨vb, 0, none⟩)) rfl (by as_aux_lemma => kernel_rfl) (by as_aux_lemma => kernel_rfl) (by as_aux_lemma => kernel_rfl) (fun _ _ _ h => h) (Or.inl ⟨by rfl, ?_⟩) hHeld ?_
  · intro w' hSw; clear hSw; go_simp
  simp only [List.getElem_toArray, List.getElem_cons_succ, List.getElem_cons_zero, Act.put, List.setIfInBounds_toArray, List.set_cons_zero, List.set_cons_succ]
  refine wpAnyH_take (i := 30) (v := .pointer (some ⟨vb, 67, none⟩)) rfl (by as_aux_lemma => kernel_rfl) (by as_aux_lemma => kernel_rfl) (by as_aux_lemma => kernel_rfl) (fun _ _ _ h => h) (Or.inl ⟨by rfl, ?_⟩) hHeld ?_
  · intro w' hSw; clear hSw; go_simp
  simp only [List.getElem_toArray, List.getElem_cons_succ, List.getElem_cons_zero, Act.put, List.setIfInBounds_toArray, List.set_cons_zero, List.set_cons_succ]
  refine wpAnyH_take (i := 31) (v := .pointer (some ⟨vb, 67, none⟩)) rfl (by as_aux_lemma => kernel_rfl) (by as_aux_lemma => kernel_rfl) (by as_aux_lemma => kernel_rfl) (fun _ _ _ h => h) (Or.inl ⟨by rfl, ?_⟩) hHeld ?_
  · intro w' hSw; clear hSw; go_simp
  simp only [List.getElem_toArray, List.getElem_cons_succ, List.getElem_cons_zero, Act.put, List.setIfInBounds_toArray, List.set_cons_zero, List.set_cons_succ]
  refine wpAnyH_take (i := 32) (v := .int .u64 te) rfl (by as_aux_lemma => kernel_rfl) (by as_aux_lemma => kernel_rfl) (by as_aux_lemma => kernel_rfl) (fun _ _ _ h => h) (Or.inl ⟨by rfl, ?_⟩) hHeld ?_
  · intro w' hSw; have hcc := VoteFacts.c67 hSw; clear hSw; go_simp
  simp only [List.getElem_toArray, List.getElem_cons_succ, List.getElem_cons_zero, Act.put, List.setIfInBounds_toArray, List.set_cons_zero, List.set_cons_succ]
  refine wpAnyH_take (i := 33) (v := .pointer (some ⟨vb, 0, none⟩)) rfl (by as_aux_lemma => kernel_rfl) (by as_aux_lemma => kernel_rfl) (by as_aux_lemma => kernel_rfl) (fun _ _ _ h => h) (Or.inl ⟨by rfl, ?_⟩) hHeld ?_
  · intro w' hSw; clear hSw; go_simp
  simp only [List.getElem_toArray, List.getElem_cons_succ, List.getElem_cons_zero, Act.put, List.setIfInBounds_toArray, List.set_cons_zero, List.set_cons_succ]
  refine wpAnyH_take (i := 34) (v := .pointer (some ⟨vb, 0, none⟩)) rfl (by as_aux_lemma => kernel_rfl) (by as_aux_lemma => kernel_rfl) (by as_aux_lemma => kernel_rfl) (fun _ _ _ h => h) (Or.inl ⟨by rfl, ?_⟩) hHeld ?_
  · intro w' hSw; clear hSw; go_simp
  simp only [List.getElem_toArray, List.getElem_cons_succ, List.getElem_cons_zero, Act.put, List.setIfInBounds_toArray, List.set_cons_zero, List.set_cons_succ]
  refine wpAnyH_take (i := 35) (v := .pointer (some ⟨vb, 0, none⟩)) rfl (by as_aux_lemma => kernel_rfl) (by as_aux_lemma => kernel_rfl) (by as_aux_lemma => kernel_rfl) (fun _ _ _ h => h) (Or.inl ⟨by rfl, ?_⟩) hHeld ?_
  · intro w' hSw; clear hSw; go_simp
  simp only [List.getElem_toArray, List.getElem_cons_succ, List.getElem_cons_zero, Act.put, List.setIfInBounds_toArray, List.set_cons_zero, List.set_cons_succ]
  refine wpAnyH_take (i := 36) (v := .pointer (some ⟨vb, 67, none⟩)) rfl (by as_aux_lemma => kernel_rfl) (by as_aux_lemma => kernel_rfl) (by as_aux_lemma => kernel_rfl) (fun _ _ _ h => h) (Or.inl ⟨by rfl, ?_⟩) hHeld ?_
  · intro w' hSw; clear hSw; go_simp
  simp only [List.getElem_toArray, List.getElem_cons_succ, List.getElem_cons_zero, Act.put, List.setIfInBounds_toArray, List.set_cons_zero, List.set_cons_succ]
  refine wpAnyH_take (i := 37) (v := .pointer (some ⟨vb, 68, none⟩)) rfl (by as_aux_lemma => kernel_rfl) (by as_aux_lemma => kernel_rfl) (by as_aux_lemma => kernel_rfl) (fun _ _ _ h => h) (Or.inl ⟨by rfl, ?_⟩) hHeld ?_
  · intro w' hSw; clear hSw; go_simp
  simp only [List.getElem_toArray, List.getElem_cons_succ, List.getElem_cons_zero, Act.put, List.setIfInBounds_toArray, List.set_cons_zero, List.set_cons_succ]
  refine wpAnyH_take (i := 38) (v := .agg tr.toArray) rfl (by as_aux_lemma => kernel_rfl) (by as_aux_lemma => kernel_rfl) (by as_aux_lemma => kernel_rfl) (fun _ _ _ h => h) (yieldsIf_load_mid (by rfl) 59 _ rfl vb 68 rfl tr _ (fun _ h => VoteFacts.r68 h) Try.underlying59 rfl (by rw [i59, (unhide HA).l3])) hHeld ?_
  simp only [List.getElem_toArray, List.getElem_cons_succ, List.getElem_cons_zero, Act.put, List.setIfInBounds_toArray, List.set_cons_zero, List.set_cons_succ]
  refine wpAnyH_take (i := 39) (v := .pointer (some ⟨vb, 0, none⟩)) rfl (by as_aux_lemma => kernel_rfl) (by as_aux_lemma => kernel_rfl) (by as_aux_lemma => kernel_rfl) (fun _ _ _ h => h) (Or.inl ⟨by rfl, ?_⟩) hHeld ?_
  · intro w' hSw; clear hSw; go_simp
  simp only [List.getElem_toArray, List.getElem_cons_succ, List.getElem_cons_zero, Act.put, List.setIfInBounds_toArray, List.set_cons_zero, List.set_cons_succ]
  refine wpAnyH_take (i := 40) (v := .pointer (some ⟨vb, 0, none⟩)) rfl (by as_aux_lemma => kernel_rfl) (by as_aux_lemma => kernel_rfl) (by as_aux_lemma => kernel_rfl) (fun _ _ _ h => h) (Or.inl ⟨by rfl, ?_⟩) hHeld ?_
  · intro w' hSw; clear hSw; go_simp
  simp only [List.getElem_toArray, List.getElem_cons_succ, List.getElem_cons_zero, Act.put, List.setIfInBounds_toArray, List.set_cons_zero, List.set_cons_succ]
  refine wpAnyH_take (i := 41) (v := .pointer (some ⟨vb, 100, none⟩)) rfl (by as_aux_lemma => kernel_rfl) (by as_aux_lemma => kernel_rfl) (by as_aux_lemma => kernel_rfl) (fun _ _ _ h => h) (Or.inl ⟨by rfl, ?_⟩) hHeld ?_
  · intro w' hSw; clear hSw; go_simp
  simp only [List.getElem_toArray, List.getElem_cons_succ, List.getElem_cons_zero, Act.put, List.setIfInBounds_toArray, List.set_cons_zero, List.set_cons_succ]
  refine wpAnyH_take (i := 42) (v := .bool fb) rfl (by as_aux_lemma => kernel_rfl) (by as_aux_lemma => kernel_rfl) (by as_aux_lemma => kernel_rfl) (fun _ _ _ h => h) (Or.inl ⟨by rfl, ?_⟩) hHeld ?_
  · intro w' hSw; have hcc := VoteFacts.c100 hSw; clear hSw; go_simp
  simp only [List.getElem_toArray, List.getElem_cons_succ, List.getElem_cons_zero, Act.put, List.setIfInBounds_toArray, List.set_cons_zero, List.set_cons_succ]
  refine wpAnyH_take (i := 43) (v := .int .u64 sl) rfl (by as_aux_lemma => kernel_rfl) (by as_aux_lemma => kernel_rfl) (by as_aux_lemma => kernel_rfl) (fun _ _ _ h => h) (Or.inl ⟨by rfl, ?_⟩) hHeld ?_
  · intro w' hSw; clear hSw; go_simp
  simp only [List.getElem_toArray, List.getElem_cons_succ, List.getElem_cons_zero, Act.put, List.setIfInBounds_toArray, List.set_cons_zero, List.set_cons_succ]
  refine wpAnyH_take (i := 44) (v := .int .u64 ix) rfl (by as_aux_lemma => kernel_rfl) (by as_aux_lemma => kernel_rfl) (by as_aux_lemma => kernel_rfl) (fun _ _ _ h => h) (Or.inl ⟨by rfl, ?_⟩) hHeld ?_
  · intro w' hSw; clear hSw; go_simp
  simp only [List.getElem_toArray, List.getElem_cons_succ, List.getElem_cons_zero, Act.put, List.setIfInBounds_toArray, List.set_cons_zero, List.set_cons_succ]
  refine wpAnyH_ready (rs := [45]) (by as_aux_lemma => kernel_rfl) (by simp) ?_
  refine AllReadyH.cons rfl (fun K hK => ?_) AllReadyH.nil
  rw [if_pos (by rfl)]
  refine wp_store_any 48 _ _ rfl w.heap.size hd.toArray rfl rfl 48 _ Bx0a (by rw [i48]; simp [(unhide HA).l1]) (by simp [(unhide HA).l1]) (all_one (unhide HA).c1) ?_
  intro x1 kx1 sx1 bx1
  have Bx1b := (kx1.block _ (by omega) (by omega)).trans Bx0b
  have Bx1c := (kx1.block _ (by omega) (by omega)).trans Bx0c
  have hfx1 : VoteFacts x1 vb sl ix se te hd sr tr fb := hHeld.keep kx1 (by omega)
  clear hHeld
  refine hK.out _ _ hfx1 (fun hHeld => ?_)
  clear hK K hfx1
  simp only [List.getElem_toArray, List.getElem_cons_succ, List.getElem_cons_zero, Act.put, List.setIfInBounds_toArray, List.set_cons_zero, List.set_cons_succ]
  refine wpAnyH_take (i := 46) (v := .int .u64 se) rfl (by as_aux_lemma => kernel_rfl) (by as_aux_lemma => kernel_rfl) (by as_aux_lemma => kernel_rfl) (fun _ _ _ h => h) (Or.inl ⟨by rfl, ?_⟩) hHeld ?_
  · intro w' hSw; clear hSw; go_simp
  simp only [List.getElem_toArray, List.getElem_cons_succ, List.getElem_cons_zero, Act.put, List.setIfInBounds_toArray, List.set_cons_zero, List.set_cons_succ]
  refine wpAnyH_ready (rs := [47]) (by as_aux_lemma => kernel_rfl) (by simp) ?_
  refine AllReadyH.cons rfl (fun K hK => ?_) AllReadyH.nil
  rw [if_pos (by rfl)]
  refine wp_store_any 48 _ _ rfl (w.heap.size + 1) sr.toArray rfl rfl 48 _ Bx1b (by rw [i48]; simp [(unhide HA).l2]) (by simp [(unhide HA).l2]) (all_one (unhide HA).c2) ?_
  intro x2 kx2 sx2 bx2
  have Bx2a := (kx2.block _ (by omega) (by omega)).trans bx1
  have Bx2c := (kx2.block _ (by omega) (by omega)).trans Bx1c
  have hfx2 : VoteFacts x2 vb sl ix se te hd sr tr fb := hHeld.keep kx2 (by omega)
  clear hHeld
  refine hK.out _ _ hfx2 (fun hHeld => ?_)
  clear hK K hfx2
  simp only [List.getElem_toArray, List.getElem_cons_succ, List.getElem_cons_zero, Act.put, List.setIfInBounds_toArray, List.set_cons_zero, List.set_cons_succ]
  refine wpAnyH_take (i := 48) (v := .int .u64 te) rfl (by as_aux_lemma => kernel_rfl) (by as_aux_lemma => kernel_rfl) (by as_aux_lemma => kernel_rfl) (fun _ _ _ h => h) (Or.inl ⟨by rfl, ?_⟩) hHeld ?_
  · intro w' hSw; clear hSw; go_simp
  simp only [List.getElem_toArray, List.getElem_cons_succ, List.getElem_cons_zero, Act.put, List.setIfInBounds_toArray, List.set_cons_zero, List.set_cons_succ]
  refine wpAnyH_ready (rs := [49]) (by as_aux_lemma => kernel_rfl) (by simp) ?_
  refine AllReadyH.cons rfl (fun K hK => ?_) AllReadyH.nil
  rw [if_pos (by rfl)]
  refine wp_store_any 48 _ _ rfl (w.heap.size + 1 + 1) tr.toArray rfl rfl 48 _ Bx2c (by rw [i48]; simp [(unhide HA).l3]) (by simp [(unhide HA).l3]) (all_one (unhide HA).c3) ?_
  intro x3 kx3 sx3 bx3
  have Bx3a := (kx3.block _ (by omega) (by omega)).trans Bx2a
  have Bx3b := (kx3.block _ (by omega) (by omega)).trans bx2
  have hfx3 : VoteFacts x3 vb sl ix se te hd sr tr fb := hHeld.keep kx3 (by omega)
  clear hHeld
  refine hK.out _ _ hfx3 (fun hHeld => ?_)
  clear hK K hfx3
  simp only [List.getElem_toArray, List.getElem_cons_succ, List.getElem_cons_zero, Act.put, List.setIfInBounds_toArray, List.set_cons_zero, List.set_cons_succ]
  refine wpAnyH_take (i := 50) (v := .bool fb) rfl (by as_aux_lemma => kernel_rfl) (by as_aux_lemma => kernel_rfl) (by as_aux_lemma => kernel_rfl) (fun _ _ _ h => h) (Or.inl ⟨by rfl, ?_⟩) hHeld ?_
  · intro w' hSw; clear hSw; go_simp
  simp only [List.getElem_toArray, List.getElem_cons_succ, List.getElem_cons_zero, Act.put, List.setIfInBounds_toArray, List.set_cons_zero, List.set_cons_succ]
  refine wpAnyH_done (by as_aux_lemma => kernel_rfl) ?_ _
  clear hHeld
  refine NoPanic.normal ?_
  go_wp2_with fail
  have b3 : Below w.heap.size x.drew x3 := ((kx1.below (by omega) (by intro i hi; omega)).trans (kx2.below (by omega) (by intro i hi; omega))).trans (kx3.below (by omega) (by intro i hi; omega))
  refine bodyPost_ret (results8 Try.results50 _ _ (w.heap.size) (w.heap.size + 1) (w.heap.size + 1 + 1) 48 48 48 _ _ _ (0, 0) (0, 0) (0, 0) _ rfl rfl rfl Bx3a Bx3b bx3 Try.underlying48 rfl (by rw [i48]; simp [(unhide HA).l1]) (by rw [i48]; simp [(unhide HA).l2]) (by rw [i48]; simp [(unhide HA).l3])) rfl ⟨rfl, bel.trans b3⟩
end
end Go.Proofs.Qxb6603397a

/-
  cloneU.
-/
import Derived.Test.Qxb6603397aRead
namespace Go.Proofs.Qxb6603397a
open Go.RowKit

theorem Try.info39 : (Try.prog.info? 39).map (fun i => (i.zero, i.size, i.bytes)) = some (some (.int .u64 0), 1, 8) := by kernel_rfl

theorem eqNil23 (w : World) (a : Option Addr) (l c : Nat) : (binOp .eql 23 (.slice a l c) (.slice none 0 0)).run Try.prog w = .ok (.bool a.isNone) w := Lib.run_eql_slice_nil w 23 39 a l c 0 0 Try.underlying23
theorem neNil23 (w : World) (a : Option Addr) (l c : Nat) : (binOp .neq 23 (.slice a l c) (.slice none 0 0)).run Try.prog w = .ok (.bool (!a.isNone)) w := run_neq_slice_nil_any w 23 39 a l c 0 0 Try.underlying23
theorem eqNil70 (w : World) (r : Option Nat) : (binOp .eql 70 (.map r) (.map none)).run Try.prog w = .ok (.bool r.isNone) w := run_eql_map_nil w 70 _ _ r Try.underlying70
theorem neNil70 (w : World) (r : Option Nat) : (binOp .neq 70 (.map r) (.map none)).run Try.prog w = .ok (.bool (!r.isNone)) w := run_neq_map_nil w 70 _ _ r Try.underlying70

/-- The numbers as values. -/
def vals (zs : List Int) : List Value := zs.map (Value.int .u64)

theorem vals_length (zs : List Int) : (vals zs).length = zs.length := by simp [vals]
theorem vals_get (zs : List Int) (j : Nat) (h : j < zs.length) : (vals zs)[j]? = some (.int .u64 (zs.getD j 0)) := by
  simp [vals, List.getElem?_eq_getElem h]

/-- What is owned is a slice that reads so. -/
theorem Sl.of_owns {w : World} {base : Nat} {a : Option Addr} {n c : Nat} {zs : List Int} (h : w.ownsRow base 39 1 (.slice a n c) n (vals zs)) (hw : ∀ x ∈ zs, (Lit.int .u64 x).wf = true) : Sl w.heap.size w a n c zs := by
  have hl : zs.length = n := by have := h.1; rw [vals_length] at this; omega
  rcases h.2 with ⟨hv, h0⟩ | ⟨g, cap, cur, hv, hg, hh, hnc, hcm, hcs, ht⟩
  · simp only [Value.slice.injEq] at hv
    obtain ⟨rfl, rfl, rfl⟩ := hv
    exact ⟨hl, by omega, by unfold maxLen; omega, fun _ => rfl, hw, .inl rfl⟩
  · simp only [Value.slice.injEq] at hv
    obtain ⟨rfl, _, rfl⟩ := hv
    refine ⟨hl, hnc, hcm, (fun h => by cases h), hw, .inr ⟨g, 0, rfl, ?_, fun j hj => ?_⟩⟩
    · exact (Array.getElem?_eq_some_iff.1 hh).1
    · rw [Nat.zero_add, h.cellAt j (by omega), vals_get zs j (by omega)]

/-- The row behind k rounds: the first k are copied, the rest are nought. -/
def mix (zs : List Int) (n k : Nat) : List Value := vals (zs.take k) ++ List.replicate (n - k) (.int .u64 0)

theorem mix_zero (zs : List Int) (n : Nat) : mix zs n 0 = (madeCells (Value.int IntKind.u64 0).cells (n * 1)).toList := by
  apply List.ext_getElem?
  intro i
  simp [mix, vals, madeCells, Value.cells, List.getElem?_replicate]
  by_cases h : i < n <;> simp [h, Nat.mod_one]

theorem mix_end (zs : List Int) (n : Nat) (h : zs.length = n) : mix zs n n = vals zs := by
  simp [mix, ← h]

theorem vals_take_succ (zs : List Int) (k : Nat) (hk : k < zs.length) : vals (zs.take (k + 1)) = vals (zs.take k) ++ [.int .u64 (zs.getD k 0)] := by
  unfold vals
  rw [List.take_add_one, List.map_append, List.getD, List.getElem?_eq_getElem hk]
  rfl

theorem mix_succ (zs : List Int) (n k : Nat) (h : zs.length = n) (hk : k < n) : (mix zs n k).set k (.int .u64 (zs.getD k 0)) = mix zs n (k + 1) := by
  have e : n - k = (n - (k + 1)) + 1 := by omega
  have e2 : k - (vals (zs.take k)).length = 0 := by simp [vals]; omega
  unfold mix
  rw [e, List.replicate_succ, List.set_append_right _ _ (by simp [vals]; omega), e2, List.set_cons_zero, vals_take_succ zs k (by omega), List.append_assoc]
  rfl

set_option maxHeartbeats 400000 in
theorem clone12_nil (w : World) : Calls Try.prog 12 #[.slice none 0 0] w fun e w' => e = .returned (.slice none 0 0) ∧ w' = w := by
  have qs := fun (w : World) (a : Option Addr) (l c : Nat) => eqNil23 w a l c
  go_enter Try.func12, Try.ntmps12
  go_wp2
  go_ret
  exact ⟨rfl, rfl⟩

set_option maxHeartbeats 400000 in
theorem clone12_zero (ad : Addr) (c : Nat) (w : World) :
    Calls Try.prog 12 #[.slice (some ad) 0 c] w fun e w' => ∃ g, e = .returned (.slice (some ⟨g, 0, none⟩) 0 0) ∧ w'.ownsRow w.heap.size 39 1 (.slice (some ⟨g, 0, none⟩) 0 0) 0 [] ∧ Below w.heap.size w w' := by
  have qs := fun (w : World) (a : Option Addr) (l c : Nat) => eqNil23 w a l c
  obtain ⟨i0, hi, hz0, hz1, hz2⟩ := info_parts Try.info39
  go_enter Try.func12, Try.ntmps12
  go_wp2_with (at_make; refine wpList_make_full _ rfl _ _ 23 rfl w.heap.size 39 i0 (.int .u64 0) 1 Try.underlying23 hi hz0 hz1 .i64 .i64 _ _ 0 rfl rfl rfl rfl (by omega) (by unfold maxLen; omega) (Nat.le_refl _) ?_; intro w1 hown1 hgrow1)
  refine wp_loop_rounds 1 ?_
  rw [rounds_succ]
  go_wp2
  go_ret
  exact ⟨_, rfl, by simpa [madeCells] using hown1, (Below.refl _ _).grown hgrow1 (Nat.le_refl _) (fun k hk => by cases hk)⟩

set_option maxHeartbeats 400000 in
theorem clone12_some (b off n c : Nat) (zs : List Int) (w : World) (hn : zs.length = n) (hb : b < w.heap.size) (hbig : n * 8 ≤ 140737488355328) (hc : ∀ j, j < n → w.cell? ⟨b, off + j, none⟩ = some (.int .u64 (zs.getD j 0))) :
    Calls Try.prog 12 #[.slice (some ⟨b, off, none⟩) n c] w fun e w' => ∃ g, e = .returned (.slice (some ⟨g, 0, none⟩) n n) ∧ w'.ownsRow w.heap.size 39 1 (.slice (some ⟨g, 0, none⟩) n n) n (vals zs) ∧ Below w.heap.size w w' := by
  have qs := fun (w : World) (a : Option Addr) (l c : Nat) => eqNil23 w a l c
  have HN := hide hn
  clear hn
  obtain ⟨i0, hi, hz0, hz1, hz2⟩ := info_parts Try.info39
  go_enter Try.func12, Try.ntmps12
  go_wp2_with (at_make; refine wpList_make_full _ rfl _ _ 23 rfl w.heap.size 39 i0 (.int .u64 0) 1 Try.underlying23 hi hz0 hz1 .i64 .i64 _ _ n rfl rfl rfl rfl (by rw [hz2]; omega) (by unfold maxLen; omega) (Nat.le_refl _) ?_; intro w1 hown1 hgrow1)
  have hb1 : Below w.heap.size w w1 := (Below.refl _ _).grown hgrow1 (Nat.le_refl _) (fun k hk => by cases hk)
  rw [← mix_zero zs n] at hown1
  go_loopw [4] (fun i wr => ∃ k : Nat, k ≤ n ∧ i = .int .i64 k ∧ wr.ownsRow w.heap.size 39 1 (.slice (some ⟨w.heap.size, 0, none⟩) n n) n (mix zs n k) ∧ Below w.heap.size w wr) (fun i _ => n - (intOf i).toNat)
  case atStart => exact ⟨0, Nat.zero_le _, rfl, hown1, hb1⟩
  case round =>
    obtain ⟨k, hk, rfl, hown, hbel⟩ := hrel
    clear hown1 hgrow1 hb1
    by_cases hlt : k < n
    · have c1 := (hbel.cell (p := ⟨b, off + k, none⟩) hb).trans (hc k hlt)
      have c2 : wr.cell? ⟨w.heap.size, k, none⟩ = (mix zs n k)[k]? := hown.cellAt k (by omega)
      have hml : k < (mix zs n k).length := by have := hown.1; omega
      rw [List.getElem?_eq_getElem hml] at c2
      have f2 := hown.frozenAt k
      have hst := hown.stored k (.int .u64 (zs.getD k 0))
      have R1 := hide hst.1
      have R2 := hide (hbel.grown hst.2 hbel.size (fun j hj => by cases hj; exact Nat.le_refl _))
      clear hst
      generalize hx : zs.getD k 0 = x at c1 R1 R2
      have HX := hide hx
      clear hc hx
      generalize (mix zs n k)[k] = y at c2
      clear hown hbel
      go_wp2
      go_roundw
      case rel =>
        refine ⟨k + 1, by omega, by go_num, ?_, unhide R2⟩
        rw [← mix_succ zs n k (unhide HN) hlt, unhide HX]
        exact unhide R1
      case measure => simp [intOf]; omega
    · have : k = n := by omega
      subst this
      clear hc
      go_wp2
      go_ret
      exact ⟨_, rfl, by rw [← mix_end zs k (unhide HN)]; exact hown, hbel⟩

theorem clone12 {B : Nat} {a : Option Addr} {n c : Nat} {zs : List Int} {w : World} (h : Sl B w a n c zs) (hB : B ≤ w.heap.size) (hbig : n * 8 ≤ 140737488355328) :
    Calls Try.prog 12 #[.slice a n c] w fun e w' => ∃ a' c', e = .returned (.slice a' n c') ∧ (a' = none ↔ a = none) ∧ w'.ownsRow w.heap.size 39 1 (.slice a' n c') n (vals zs) ∧ Below w.heap.size w w' := by
  cases a with
  | none =>
    have h0 := h.nil rfl
    subst h0
    have hn : n = 0 := by have := h.cap; omega
    subst hn
    rw [List.eq_nil_of_length_eq_zero h.len]
    refine (clone12_nil w).mono fun e w' ⟨he, hw⟩ => ?_
    subst he hw
    exact ⟨none, 0, rfl, Iff.rfl, World.ownsRow_nil _ _ _ _, Below.refl _ _⟩
  | some ad =>
    rcases h.cell with h0 | ⟨b, off, ha, hlt, hc⟩
    · subst h0
      rw [List.eq_nil_of_length_eq_zero h.len]
      refine (clone12_zero ad c w).mono fun e w' ⟨g, he, ho, hb⟩ => ?_
      exact ⟨_, _, he, by simp, ho, hb⟩
    · cases ha
      refine (clone12_some b off n c zs w h.len (by omega) hbig hc).mono fun e w' ⟨g, he, ho, hb⟩ => ?_
      exact ⟨_, _, he, by simp, ho, hb⟩

end Go.Proofs.Qxb6603397a

/-
  What the walk of FnHoldVoteTwoHandInsExact leans on.
-/
import Derived.Test.Qxb6603397aTwo
import Derived.Test.Qxb6603397aItem34
import Derived.Test.Qxb6603397aWalk8
namespace Go.Proofs.Qxb6603397a
open Go.RowKit Go.Maps

set_option maxRecDepth 100000 in
theorem bytes31 (a0 a1 : Option Addr) (n0 c0 n1 c1 : Nat) (sl sl2 ix se te : Int) (hd sr tr : Array Value) (fb fb2 : Bool) (w : World) (m0 : n0 ≤ maxLen) (m1 : n1 ≤ maxLen) :
    Calls Try.prog 31 #[.slice a0 n0 c0, .slice a1 n1 c1, .int .u64 sl, .int .u64 sl2, .int .u64 ix, .agg hd, .int .u64 se, .agg sr, .int .u64 te, .agg tr, .bool fb, .bool fb2] w fun e w' => ∃ b : Bool, e = .returned (.bool b) ∧ Below w.heap.size w w' ∧ (n0 ≤ 4096 → n1 ≤ 4096 → b = true) := by
  unfold maxLen at m0 m1
  go_enter Try.func31, Try.ntmps31
  go_wp2
  all_goals go_ret
  all_goals refine ⟨_, rfl, ?_, ?_⟩
  all_goals first | exact (((Below.refl _ _).alloc (Nat.le_refl _) _).alloc (by simp) _).alloc (by simp; omega) _ | (intro _ _; rfl) | (intro _ _; omega)

theorem first33 (sl ix se te : Int) (hd sr tr : List Value) (fb : Bool) (hA : Arrs hd sr tr) {hb bm vm : Nat} {w : World} {kl : Lit} (hkl : keyOf Try.prog 69 (.agg (keyL sl ix se te hd sr tr fb).toArray) = some kl)
    (hH : Hold w hb bm vm (.slice none 0 0) [] 0 (.map [])) (hbv : bm < vm) (hbw : bm ≤ w.heap.size) {B : Nat} {va : Option Addr} {n vc : Nat} {Y : List Int} (hY : Sl B w va n vc Y) (hB : B ≤ w.heap.size) (hn : n ≤ 1000000) :
    Calls Try.prog 33 #[.pointer (some ⟨hb, 0, none⟩), .slice va n vc, .int .u64 sl, .int .u64 ix, .agg hd.toArray, .int .u64 se, .agg sr.toArray, .int .u64 te, .agg tr.toArray, .bool fb] w fun e w' => e = .returned (.int .i64 Y.length) ∧ (S1 w' hb bm vm kl (keyL sl ix se te hd sr tr fb) Y ∧ Below bm w w') := by
  refine wrap33 hd sr tr hA va n vc sl ix se te fb _ w _ _ (fun w' hw' => ?_)
  refine (first46 sl ix se te hd sr tr fb hA hkl (hH.below hw') hbv (hY.below (hw'.mono hB)) (Nat.le_trans hB hw'.size) hn).mono fun e w'' ⟨he, hv, hb'⟩ => ?_
  exact ⟨he, hv, (hw'.mono hbw).trans hb'⟩

theorem second33 (sl sl2 ix se te : Int) (hd sr tr : List Value) (fb fb2 : Bool) (hA : Arrs hd sr tr) {hb bm vm : Nat} {w : World} {kl1 kl2 : Lit} (hkl1 : keyOf Try.prog 69 (.agg (keyL sl ix se te hd sr tr fb).toArray) = some kl1) (hkl2 : keyOf Try.prog 69 (.agg (keyL sl2 ix se te hd sr tr fb2).toArray) = some kl2)
    {A : List Int} (hS : S1 w hb bm vm kl1 (keyL sl ix se te hd sr tr fb) A) (hbv : bm < vm) (hbw : bm ≤ w.heap.size) (iA : incB A = true) (lA : A.length ≤ 1000000) (same : Bool) (hs1 : same = true → sl = sl2 ∧ fb = fb2) (hs2 : same = false → kl1 ≠ kl2)
    {B : Nat} {va : Option Addr} {n vc : Nat} {Y : List Int} (hY : Sl B w va n vc Y) (hB : B ≤ w.heap.size) (hn : n ≤ 1000000) :
    Calls Try.prog 33 #[.pointer (some ⟨hb, 0, none⟩), .slice va n vc, .int .u64 sl2, .int .u64 ix, .agg hd.toArray, .int .u64 se, .agg sr.toArray, .int .u64 te, .agg tr.toArray, .bool fb2] w fun e w' => e = .returned (.int .i64 (wantL same A Y).length) ∧
      (S2 w' hb bm vm (keyL sl ix se te hd sr tr fb) (keyL sl2 ix se te hd sr tr fb2) kl1 kl2 A (wantL same A Y) same ∧ Below bm w w') := by
  refine wrap33 hd sr tr hA va n vc sl2 ix se te fb2 _ w _ _ (fun w' hw' => ?_)
  refine (second46 sl sl2 ix se te hd sr tr fb fb2 hA hkl1 hkl2 (hS.below hw') hbv iA lA same hs1 hs2 (hY.below (hw'.mono hB)) (Nat.le_trans hB hw'.size) hn).mono fun e w'' ⟨he, hv, hb'⟩ => ?_
  exact ⟨he, hv, (hw'.mono hbw).trans hb'⟩

/-- A row of numbers that may be written over, in a block from lo on, below hi. -/
def RowOk (w : World) (p : Option Addr) (n lo hi : Nat) : Prop :=
  n = 0 ∨ ∃ g, p = some ⟨g, 0, none⟩ ∧ lo ≤ g ∧ g < hi ∧ ∀ j, j < n → (∃ x, w.cell? ⟨g, j, none⟩ = some (.int .u64 x)) ∧ w.frozen? ⟨g, j, none⟩ = false

theorem RowOk.keep {S : Nat → Prop} {w w' : World} {p : Option Addr} {n lo hi : Nat} (h : RowOk w p n lo hi) (hk : Keep S w w') (hs : ∀ i, lo ≤ i → i < hi → ¬ S i) : RowOk w' p n lo hi := by
  rcases h with h0 | ⟨g, rfl, h1, h2, hc⟩
  · exact .inl h0
  · refine .inr ⟨g, rfl, h1, h2, fun j hj => ?_⟩
    obtain ⟨⟨x, hx⟩, hf⟩ := hc j hj
    have hg : g < w.heap.size := World.block_lt_of_cell? w ⟨g, j, none⟩ hx
    exact ⟨⟨x, (hk.cell (p := ⟨g, j, none⟩) hg (hs g h1 h2)).trans hx⟩, (hk.frozen (p := ⟨g, j, none⟩) hg (hs g h1 h2)).trans hf⟩

theorem RowOk.of_owns {w : World} {B : Nat} {p : Option Addr} {n c hi : Nat} {zs : List Int} (h : w.ownsRow B 39 1 (.slice p n c) n (vals zs)) (hh : w.heap.size ≤ hi) : RowOk w p n B hi := by
  rcases h.2 with ⟨hv, h0⟩ | ⟨g, cap, cur, hv, hg, hb, hnc, hcm, hcs, ht⟩
  · exact .inl h0
  · simp only [Value.slice.injEq] at hv
    obtain ⟨rfl, -, rfl⟩ := hv
    refine .inr ⟨g, rfl, hg, Nat.lt_of_lt_of_le (Array.getElem?_eq_some_iff.1 hb).1 hh, fun j hj => ⟨?_, ?_⟩⟩
    · have hl : zs.length = n := by have := h.1; rw [vals_length] at this; omega
      refine ⟨zs.getD j 0, (h.cellAt j (by omega)).trans ?_⟩
      rw [vals, List.getElem?_map, List.getElem?_eq_getElem (by omega)]
      simp [List.getD, List.getElem?_eq_getElem (show j < zs.length by omega)]
    · exact frozen_of_row _ _ j _ 39 hb

theorem Keep.setCell (w : World) (a : Addr) (v : Value) : Keep (fun i => i = a.block) w (w.setCell a v) := by
  refine ⟨rfl, rfl, rfl, by simp [World.setCell], fun k hk hne => ?_⟩
  simp [World.setCell, Array.getElem?_modify, Ne.symm hne]

theorem RowOk.set {w : World} {p : Option Addr} {n lo hi : Nat} (h : RowOk w p n lo hi) (a : Addr) (y : Int) : RowOk (w.setCell a (.int .u64 y)) p n lo hi := by
  rcases h with h0 | ⟨g, rfl, h1, h2, hc⟩
  · exact .inl h0
  · refine .inr ⟨g, rfl, h1, h2, fun j hj => ?_⟩
    obtain ⟨⟨x, hx⟩, hf⟩ := hc j hj
    refine ⟨?_, by rw [World.frozen?_setCell]; exact hf⟩
    by_cases he : a = ⟨g, j, none⟩
    · subst he
      exact ⟨y, World.cell?_setCell_same _ _ _ hx⟩
    · exact ⟨x, (World.cell?_setCell_other _ _ _ _ he).trans hx⟩

theorem ItemOk.of {w : World} {hb bm vm : Nat} {iv : Value} {items : List (Nat × Value)} {N : Nat} {D : DataW Unit} {k vb lo : Nat} {ga : Option Addr} {gc : Nat} {Y : List Int} {sl ix se te : Int} {hd sr tr : List Value} {fb : Bool} {kl : Lit} (h : Hold w hb bm vm iv items N D) (hk : items[k]? = some (vb, .slice ga Y.length gc))
    (it : VI w lo D vb ga gc Y (keyL sl ix se te hd sr tr fb) kl) (key : keyOf Try.prog 69 (.agg (keyL sl ix se te hd sr tr fb).toArray) = some kl) : ∃ g c, ItemOk w hb vm N D g items.length c k vb ga Y.length gc Y sl ix se te hd sr tr fb kl := by
  obtain ⟨g, c, hi⟩ := h.item hk
  exact ⟨g, c, hi, it.list, h.c2, h.vot, it.cells, key, it.at', it.has⟩

theorem ItemAt.same {w : World} {hb g g' n c c' k k' vb vb' : Nat} {sv sv' : Value} (h : ItemAt w hb g n c k vb sv) (h' : ItemAt w hb g' n c' k' vb' sv') : g = g' ∧ c = c' := by
  have := h.c0.symm.trans h'.c0
  simp at this
  exact this

theorem Apart.below {w w' : World} {a b : Nat} (h : Apart w a b) (hb : Below w.heap.size w w') : Apart w' a b := by
  obtain ⟨hne, ca, cb, ta, tb, h1, h2⟩ := h
  exact ⟨hne, ca, cb, ta, tb, (hb.block _ (Array.getElem?_eq_some_iff.1 h1).1).trans h1, (hb.block _ (Array.getElem?_eq_some_iff.1 h2).1).trans h2⟩

end Go.Proofs.Qxb6603397a

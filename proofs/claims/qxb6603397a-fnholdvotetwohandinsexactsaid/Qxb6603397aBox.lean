/-
  What the walk of FnHoldVoteTotalIsUnionEitherOrder leans on: the boxes, the votes' state.
-/
import Derived.Test.Qxb6603397aWalk8
namespace Go.Proofs.Qxb6603397a
open Go.RowKit Go.Maps

theorem vote33 (sl ix se te : Int) (hd sr tr : List Value) (fb : Bool) (hA : Arrs hd sr tr) {hb bm vm : Nat} {X : List Int} {st : Nat} {w : World} {kl : Lit} (hkl : keyOf Try.prog 69 (.agg (keyL sl ix se te hd sr tr fb).toArray) = some kl)
    (hst : VState w hb bm vm kl X st) (hs1 : st ≤ 1) (hbv : bm < vm) (hbw : bm ≤ w.heap.size) (hinc : st = 1 → incB X = true ∧ X.length ≤ 1000000) {B : Nat} {va : Option Addr} {n vc : Nat} {Y : List Int} (hY : Sl B w va n vc Y) (hB : B ≤ w.heap.size) (hn : n ≤ 1000000) :
    Calls Try.prog 33 #[.pointer (some ⟨hb, 0, none⟩), .slice va n vc, .int .u64 sl, .int .u64 ix, .agg hd.toArray, .int .u64 se, .agg sr.toArray, .int .u64 te, .agg tr.toArray, .bool fb] w fun e w' => e = .returned (.int .i64 (vret st X Y)) ∧ (VState w' hb bm vm kl (vlist st X Y) (vst st X Y) ∧ Below bm w w') := by
  refine wrap33 hd sr tr hA va n vc sl ix se te fb _ w _ _ (fun w' hw' => ?_)
  refine (vote46 sl ix se te hd sr tr fb hA hkl (hst.below hw') hs1 hbv hinc (hY.below (hw'.mono hB)) (Nat.le_trans hB hw'.size) hn).mono fun e w'' ⟨he, hv, hb'⟩ => ?_
  exact ⟨he, hv, (hw'.mono hbw).trans hb'⟩

theorem box_facts (w : World) (hd sr tr : List Value) : (((w.alloc (.cells hd.toArray 48)).alloc (.cells sr.toArray 48)).alloc (.cells tr.toArray 48)).rangeAt w.heap.size 0 hd ∧ (((w.alloc (.cells hd.toArray 48)).alloc (.cells sr.toArray 48)).alloc (.cells tr.toArray 48)).rangeAt (w.heap.size + 1) 0 sr ∧
    (((w.alloc (.cells hd.toArray 48)).alloc (.cells sr.toArray 48)).alloc (.cells tr.toArray 48)).rangeAt (w.heap.size + 1 + 1) 0 tr :=
  ⟨range_of (heap3_0 w _ _ _) 0 hd (fun j v h => by simpa using h), range_of (heap3_1 w _ _ _) 0 sr (fun j v h => by simpa using h), range_of (heap3_2 w _ _ _) 0 tr (fun j v h => by simpa using h)⟩

theorem range_below {B : Nat} {w w' : World} {g o : Nat} {cs : List Value} (h : w.rangeAt g o cs) (hb : Below B w w') (hg : g < B) : w'.rangeAt g o cs := fun j v hj => (hb.cell (p := ⟨g, o + j, none⟩) hg).trans (h j v hj)

/-- The three boxes of the arrays stand. -/
def Box (w : World) (g : Nat) (hd sr tr : List Value) : Prop := w.rangeAt g 0 hd ∧ w.rangeAt (g + 1) 0 sr ∧ w.rangeAt (g + 1 + 1) 0 tr
theorem Box.below {B : Nat} {w w' : World} {g : Nat} {hd sr tr : List Value} (h : Box w g hd sr tr) (hb : Below B w w') (hg : g + 2 < B) : Box w' g hd sr tr := ⟨range_below h.1 hb (by omega), range_below h.2.1 hb (by omega), range_below h.2.2 hb (by omega)⟩

/-- What stands below block number bz while the votes are handed in. -/
structure B8 (w x : World) (bz : Nat) (hd sr tr : List Value) (p0 : Option Addr) (n0 d0 : Nat) (A : List Int) (p1 : Option Addr) (n1 d1 : Nat) (B : List Int) : Prop where
  box : Box x w.heap.size hd sr tr
  s0 : Sl bz x p0 n0 d0 A
  s1 : Sl bz x p1 n1 d1 B
  bel : Below w.heap.size w x
  lo : w.heap.size + 3 ≤ bz

theorem B8.below {w x x' : World} {bz : Nat} {hd sr tr : List Value} {p0 : Option Addr} {n0 d0 : Nat} {A : List Int} {p1 : Option Addr} {n1 d1 : Nat} {B : List Int} (h : B8 w x bz hd sr tr p0 n0 d0 A p1 n1 d1 B) (hb : Below bz x x') : B8 w x' bz hd sr tr p0 n0 d0 A p1 n1 d1 B :=
  ⟨h.box.below hb (by have := h.lo; omega), h.s0.below hb, h.s1.below hb, h.bel.trans (hb.mono (by have := h.lo; omega)), h.lo⟩

theorem B8.mono {w x : World} {bz bz' : Nat} {hd sr tr : List Value} {p0 : Option Addr} {n0 d0 : Nat} {A : List Int} {p1 : Option Addr} {n1 d1 : Nat} {B : List Int} (h : B8 w x bz hd sr tr p0 n0 d0 A p1 n1 d1 B) (hb : bz ≤ bz') : B8 w x bz' hd sr tr p0 n0 d0 A p1 n1 d1 B :=
  ⟨h.box, h.s0.mono hb, h.s1.mono hb, h.bel, by have := h.lo; omega⟩

theorem vst_le (X Y : List Int) : vst 0 X Y ≤ 1 := by unfold vst; rw [if_pos rfl]; split <;> omega

/-- One where a number is above nought. -/
def nz (n : Int) : Int := if 0 < n then 1 else 0
theorem nz_pos {n : Int} (h : 0 < n) : nz n = 1 := if_pos h
theorem nz_not {n : Int} (h : ¬ 0 < n) : nz n = 0 := if_neg h
theorem nz_range (n : Int) : 0 ≤ nz n ∧ nz n ≤ 1 := by unfold nz; split <;> omega

theorem nonzero42' (n : Int) (w : World) : Calls Try.prog 42 #[.int .i64 n] w fun e w' => e = .returned (.int .i64 (nz n)) ∧ w' = w := nonzero42 n w

/-- The counts of two hand-ins. -/
structure Nums (A B : List Int) (u e1 e2 s : Nat) : Prop where
  h1 : vret 0 [] A = e1
  h2 : vret (vst 0 [] A) A B = e2
  h3 : vst (vst 0 [] A) A B = s
  sum : e1 + e2 = u
  two : s ≤ 2
  items : (s : Int) = nz (A.length : Int) + nz ((u : Int) - A.length)
  zero : s = 0 ↔ u = 0

theorem nums8 {A B : List Int} {u : Nat} (hU : u = A.length + (news B A).length ∧ u = B.length + (news A B).length) : ∃ e1 e2 s, Nums A B u e1 e2 s := by
  refine ⟨_, _, _, rfl, rfl, rfl, ?_, ?_, ?_, ?_⟩
  · cases A with
    | nil => simp only [vret, vst, if_true]; have := hU.2; simp [news_eq] at this ⊢; omega
    | cons a A => exact hU.1.symm
  · cases A with
    | nil => exact Nat.le_succ_of_le (vst_le [] B)
    | cons a A =>
      have h : vst (vst 0 [] (a :: A)) (a :: A) B = (if news B (a :: A) = [] then 1 else 2) := rfl
      rw [h]
      split <;> omega
  · cases A with
    | nil =>
      have h := hU.2
      simp only [news_eq, List.filter_nil, List.length_nil, Nat.add_zero] at h
      cases B with
      | nil => simp at h; subst h; rfl
      | cons b B =>
        have : (0 : Int) < (u : Int) := by simp at h; omega
        simp only [vst, if_true, List.length_nil]
        rw [nz_not (by simp), nz_pos (by simpa using this)]
        simp
    | cons a A =>
      have h := hU.1
      simp only [vst, if_true]
      rw [if_neg (by simp : ¬ (a :: A = [])), if_neg (by omega), nz_pos (by simp only [List.length_cons]; omega)]
      cases hn : news B (a :: A) with
      | nil => rw [hn] at h; rw [if_pos rfl, nz_not (by simp at h ⊢; omega)]; rfl
      | cons b C => rw [hn] at h; rw [if_neg (by simp), nz_pos (by simp at h ⊢; omega)]; rfl
  · cases A with
    | nil =>
      have h := hU.2
      simp only [news_eq, List.filter_nil, List.length_nil, Nat.add_zero] at h
      cases B with
      | nil => simp at h; subst h; simp [vst]
      | cons b B => simp at h; simp [vst]; omega
    | cons a A =>
      have h := hU.1
      simp only [List.length_cons] at h
      simp only [vst, if_true]
      rw [if_neg (by simp : ¬ (a :: A = [])), if_neg (by omega)]
      split <;> omega

/-- What is counted at a state's end. -/
theorem VState.out {w : World} {hb bm vm : Nat} {kl : Lit} {X : List Int} {st : Nat} (h : VState w hb bm vm kl X st) (h2 : st ≤ 2) : ∃ iv items N D, Hold w hb bm vm iv items N D ∧ items.length = st ∧ Maps.size D = (if st = 0 then 0 else 1) := by
  match st, h, h2 with
  | 0, h, _ => exact ⟨_, _, _, _, h, rfl, rfl⟩
  | 1, ⟨_, vb, fa, fc, iv, sv, h⟩, _ => exact ⟨_, _, _, _, h.hold, rfl, by rw [size_one]; rfl⟩
  | 2, ⟨iv, items, N, D, h, h1, h2⟩, _ => exact ⟨iv, items, N, D, h, h1, by rw [h2]; rfl⟩

end Go.Proofs.Qxb6603397a

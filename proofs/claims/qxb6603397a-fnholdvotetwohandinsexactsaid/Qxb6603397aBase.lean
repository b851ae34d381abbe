/-
  Words for worlds and slices that all walks of this seat share.
-/
import Derived.Test.Qxb6603397aLeaf
import Derived.Maps.OwnSet
import Derived.Maps.AppendAt
namespace Go.Proofs.Qxb6603397a
open Go.RowKit

theorem hide {p : Prop} (h : p) : Hid p := h
theorem unhide {p : Prop} (h : Hid p) : p := h

/-- w' is w but for new blocks and for the blocks of which S says yes. -/
structure Keep (S : Nat → Prop) (w w' : World) : Prop where
  os : w'.os = w.os
  tape : w'.tape = w.tape
  output : w'.output = w.output
  size : w.heap.size ≤ w'.heap.size
  block : ∀ k, k < w.heap.size → ¬ S k → w'.heap[k]? = w.heap[k]?

theorem Keep.of_below {S : Nat → Prop} {w w' : World} (h : Below w.heap.size w w') : Keep S w w' := ⟨h.os, h.tape, h.output, h.size, fun k hk _ => h.block k hk⟩

theorem Keep.trans {S T : Nat → Prop} {a b c : World} (h : Keep S a b) (k : Keep T b c) (ht : ∀ i, i < a.heap.size → T i → S i) : Keep S a c :=
  ⟨k.os.trans h.os, k.tape.trans h.tape, k.output.trans h.output, Nat.le_trans h.size k.size, fun i hi hs => (k.block i (Nat.lt_of_lt_of_le hi h.size) (fun ht' => hs (ht i hi ht'))).trans (h.block i hi hs)⟩

theorem Keep.below {S : Nat → Prop} {w w' : World} (h : Keep S w w') {B : Nat} (hB : B ≤ w.heap.size) (hs : ∀ k, S k → B ≤ k) : Below B w w' :=
  ⟨h.os, h.tape, h.output, h.size, fun k hk => h.block k (by omega) (fun hk' => by have := hs k hk'; omega)⟩

theorem Keep.cell {S : Nat → Prop} {w w' : World} (h : Keep S w w') {p : Addr} (hp : p.block < w.heap.size) (hs : ¬ S p.block) : w'.cell? p = w.cell? p := World.cell?_of_block (w := w) (h.block p.block hp hs)
theorem Keep.frozen {S : Nat → Prop} {w w' : World} (h : Keep S w w') {p : Addr} (hp : p.block < w.heap.size) (hs : ¬ S p.block) : w'.frozen? p = w.frozen? p := World.frozen?_of_block (w := w) (h.block p.block hp hs)

theorem Below.trans' {a b c : World} (h : Below a.heap.size a b) (k : Below b.heap.size b c) : Below a.heap.size a c := h.trans (k.mono h.size)

/-- The slice (a, n, c) holds the numbers zs, in a block below B. -/
structure Sl (B : Nat) (w : World) (a : Option Addr) (n c : Nat) (zs : List Int) : Prop where
  len : zs.length = n
  cap : n ≤ c
  max : c ≤ maxLen
  nil : a = none → c = 0
  u64 : ∀ x ∈ zs, (Lit.int .u64 x).wf = true
  cell : n = 0 ∨ ∃ b off, a = some ⟨b, off, none⟩ ∧ b < B ∧ ∀ j, j < n → w.cell? ⟨b, off + j, none⟩ = some (.int .u64 (zs.getD j 0))

theorem Sl.below {B : Nat} {w w' : World} {a : Option Addr} {n c : Nat} {zs : List Int} (h : Sl B w a n c zs) (hb : Below B w w') : Sl B w' a n c zs := by
  refine ⟨h.len, h.cap, h.max, h.nil, h.u64, ?_⟩
  rcases h.cell with h0 | ⟨b, off, rfl, hlt, hc⟩
  · exact .inl h0
  · exact .inr ⟨b, off, rfl, hlt, fun j hj => (hb.cell (by exact hlt)).trans (hc j hj)⟩

theorem Sl.mono {B B' : Nat} {w : World} {a : Option Addr} {n c : Nat} {zs : List Int} (h : Sl B w a n c zs) (hb : B ≤ B') : Sl B' w a n c zs := by
  refine ⟨h.len, h.cap, h.max, h.nil, h.u64, ?_⟩
  rcases h.cell with h0 | ⟨b, off, rfl, hlt, hc⟩
  · exact .inl h0
  · exact .inr ⟨b, off, rfl, by omega, hc⟩

theorem Sl.wf_at {B : Nat} {w : World} {a : Option Addr} {n c : Nat} {zs : List Int} (h : Sl B w a n c zs) (k : Nat) : (Lit.int .u64 (zs.getD k 0)).wf = true := by
  by_cases hk : k < zs.length
  · rw [List.getD, List.getElem?_eq_getElem hk]
    exact h.u64 _ (List.getElem_mem hk)
  · rw [List.getD, List.getElem?_eq_none (by omega)]
    decide

def incB (zs : List Int) : Bool := decide (zs.Pairwise (· < ·))

theorem incB_of {zs : List Int} (h : ∀ j, j + 1 < zs.length → zs.getD j 0 < zs.getD (j + 1) 0) : incB zs = true := by
  unfold incB
  rw [decide_eq_true_iff]
  induction zs with
  | nil => exact List.Pairwise.nil
  | cons a r ih =>
    have ih' := ih (fun j hj => by
      have := h (j + 1) (by simp; omega)
      simpa using this)
    refine List.Pairwise.cons ?_ ih'
    intro x hx
    cases r with
    | nil => cases hx
    | cons b r' =>
      have hab : a < b := by
        have := h 0 (by simp)
        simpa using this
      rcases List.mem_cons.1 hx with rfl | hx
      · exact hab
      · have := List.rel_of_pairwise_cons ih' hx
        omega

theorem incB_not {zs : List Int} {j : Nat} (hj : j + 1 < zs.length) (h : zs.getD (j + 1) 0 ≤ zs.getD j 0) : incB zs = false := by
  unfold incB
  rw [decide_eq_false_iff_not]
  intro hp
  have := List.pairwise_iff_getElem.1 hp j (j + 1) (by omega) hj (by omega)
  rw [List.getD, List.getD, List.getElem?_eq_getElem hj, List.getElem?_eq_getElem (show j < zs.length by omega)] at h
  simp at h
  omega

end Go.Proofs.Qxb6603397a

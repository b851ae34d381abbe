/-
  What comes in: slices of integers, arrays of bytes.
-/
import Derived.Test.Qxb6603397aKey
import Derived.WalkKit
import Derived.ProofKit
import Derived.OpenShut
import Derived.ShutString
import Derived.ChangeOld
import Derived.Below
namespace Go.Proofs.Qxb6603397a
open Go.ChangeShapes Go.WideShapes Go.ChangeAt Go.RowKit

/-- A slice of integers that came in: it is nil; or it leads to a row of 'cap' cells, the numbers 'zs'. -/
def IsRow (k : IntKind) (w : World) (a : Option Addr) (len cap : Nat) (zs : List Int) : Prop :=
  (a = none ∧ len = 0 ∧ cap = 0 ∧ zs = []) ∨
  ∃ x, a = some x ∧ len ≤ cap ∧ cap ≤ maxLen ∧ zs.length = cap ∧ (∀ i, i < zs.length → w.cell? (x.add i) = some (.int k (zs.getD i 0))) ∧ ∀ n ∈ zs, (Lit.int k n).wf = true

theorem IsRow.sl {w : World} {a : Option Addr} {len cap : Nat} {zs : List Int} (h : IsRow .u64 w a len cap zs) : Sl w.heap.size w a len cap (zs.take len) := by
  rcases h with ⟨rfl, rfl, rfl, rfl⟩ | ⟨x, rfl, hl, hm, hz, hc, hw⟩
  · exact ⟨rfl, Nat.le_refl _, by unfold maxLen; omega, fun _ => rfl, fun x hx => by simp at hx, .inl rfl⟩
  · refine ⟨by simp; omega, hl, hm, (fun h => by cases h), fun y hy => hw y (List.mem_of_mem_take hy), ?_⟩
    by_cases h0 : len = 0
    · exact .inl h0
    · refine .inr ?_
      obtain ⟨b, off, rfl, hc'⟩ := ints_at hc (by omega)
      refine ⟨b, off, rfl, World.block_lt_of_cell? w _ (hc' 0 (by omega)), fun j hj => ?_⟩
      rw [hc' j (by omega)]
      simp [hj]

theorem c48 : Try.prog.cellsOf 48 = 32 := by kernel_rfl

set_option maxRecDepth 100000 in
theorem open_arr48 {H : Type} {enc : TypeId × Value → H} {W : World} {base b0 : Nat} {sp : Nat → Bool} {held : Bool} {v : Value} {d : DataW H} {ps : List MemPlace} (hval : Value.okWide Try.prog W .any b0 48 v) (hd : DataW.Trod enc Try.prog W base sp held 48 v d ps) :
    ∃ l : List Value, v = .agg l.toArray ∧ Bytes l := by
  simp only [Value.okWide, Try.underlying48] at hval
  obtain ⟨cs, rfl, h2, _⟩ := hval
  obtain ⟨fuel, hf⟩ := hd
  obtain ⟨xs, m, _, _, hl, hn, hi⟩ := DataW.trod_array Try.underlying48 hf
  refine ⟨cs.toList, by simp, by rw [Array.length_toList, h2, c48], ?_⟩
  intro v hv
  obtain ⟨i, hlt, rfl⟩ := List.getElem_of_mem hv
  have hlt' : i < 32 := by simpa [h2, c48] using hlt
  have hx := hi i hlt'
  have hxs : xs[i]? = some (xs[i]'(by omega)) := List.getElem?_eq_getElem (by omega)
  rw [hxs] at hx
  obtain ⟨x, hx1, _, hw⟩ := DataW.trod_int Try.underlying5 hx
  simp only [c5, Nat.mul_one, Value.cells] at hx1
  refine ⟨x, ?_, hw⟩
  have h3 := congrArg List.head? hx1
  simp [List.head?_take, List.head?_drop] at h3
  have h4 : i < cs.size := by simpa using hlt
  rw [Array.getElem?_eq_getElem h4] at h3
  simpa using h3

end Go.Proofs.Qxb6603397a

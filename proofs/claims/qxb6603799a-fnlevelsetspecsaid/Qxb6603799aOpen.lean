/-
  What comes in: a slice of entries.
-/
import Derived.Test.Qxb6603799aBase
import Derived.ProofKit
import Derived.OpenShut
import Derived.ShutString
import Derived.ChangeOld
import Derived.Below
import Derived.SliceStrings
namespace Go.Proofs.Qxb6603799a
open Go.ChangeShapes Go.WideShapes Go.ChangeAt Go.RowKit

section
variable {H : Type} {enc : TypeId × Value → H} {w : World} {base : Nat} {sp : Nat → Bool} {held : Bool}

theorem c5 : Try.prog.cellsOf 5 = 1 := by kernel_rfl
theorem c9 : Try.prog.cellsOf 9 = 1 := by kernel_rfl
theorem c22 : Try.prog.cellsOf 22 = 1 := by kernel_rfl
theorem c23 : Try.prog.cellsOf 23 = 1 := by kernel_rfl
theorem c37 : Try.prog.cellsOf 37 = 4 := by kernel_rfl

theorem open_bytes {fuel : Nat} {cs : List Value} {x : DataW H × List MemPlace} (h : DataW.trod enc Try.prog w base sp held fuel 23 cs = some x) :
    ∃ v, cs = [v] ∧ Byt 0 w.heap.size w v := by
  rcases open_ints Try.underlying23 Try.underlying5 c5 h with ⟨hcs, _⟩ | ⟨a, l, c, zs, hcs, _, hl, hm, hz, _, hcell, _⟩
  · exact ⟨_, hcs, none, 0, 0, rfl, Nat.le_refl _, by unfold maxLen; omega, fun _ => rfl, .inl rfl⟩
  · refine ⟨_, hcs, some a, l, c, rfl, hl, hm, (fun h => by cases h), ?_⟩
    by_cases h0 : l = 0
    · exact .inl h0
    · right
      have hzl : l ≤ zs.length := by rw [hz]; split <;> omega
      obtain ⟨b, off, rfl, hc'⟩ := ints_at hcell (by omega)
      exact ⟨b, off, rfl, Nat.zero_le _, World.block_lt_of_cell? w _ (hc' 0 (by omega)), fun j hj => ⟨_, hc' j (by omega)⟩⟩

theorem four {α : Type} {l : List α} (h : l.length = 4) : ∃ a b c d, l = [a, b, c, d] := by
  match l, h with
  | [a, b, c, d], _ => exact ⟨a, b, c, d, rfl⟩

theorem open_entry {fuel : Nat} {cs : List Value} {x : DataW H × List MemPlace} (h : DataW.trod enc Try.prog w base sp held fuel 37 cs = some x) :
    ∃ e : Ent, cs = [.string e.key, e.val, .int .u64 e.idx, .int .u64 e.lease] ∧ Byt 0 w.heap.size w e.val ∧ e.key.size ≤ maxLen ∧ (Lit.int .u64 e.idx).wf = true ∧ (Lit.int .u64 e.lease).wf = true := by
  obtain ⟨xs, m, _, _, hl, hn, hi⟩ := DataW.trod_struct Try.underlying37 h
  rw [c37] at hl
  obtain ⟨k0, k1, k2, k3, rfl⟩ := four hl
  obtain ⟨x0, x1, x2, x3, rfl⟩ := four hn
  have h0 := hi 0 _ rfl
  have h1 := hi 1 _ rfl
  have h2 := hi 2 _ rfl
  have h3 := hi 3 _ rfl
  simp only [List.getElem?_cons_zero, List.getElem?_cons_succ] at h0 h1 h2 h3
  obtain ⟨s, e0, _, hs⟩ := DataW.trod_string Try.underlying9 h0
  obtain ⟨v, e1, hv⟩ := open_bytes h1
  obtain ⟨ix, e2, _, w2⟩ := DataW.trod_int Try.underlying22 h2
  obtain ⟨le, e3, _, w3⟩ := DataW.trod_int Try.underlying22 h3
  injection e0 with e0
  injection e1 with e1
  injection e2 with e2
  injection e3 with e3
  subst e0 e1 e2 e3
  exact ⟨⟨s, k1, ix, le⟩, rfl, hv, hs, w2, w3⟩

theorem choose_list {α : Type} {P : Nat → α → Prop} (n : Nat) (h : ∀ i, i < n → ∃ e, P i e) : ∃ E : List α, E.length = n ∧ ∀ i e, E[i]? = some e → P i e := by
  induction n with
  | zero => exact ⟨[], rfl, fun i e hi => by simp at hi⟩
  | succ n ih =>
    obtain ⟨E, hl, hE⟩ := ih (fun i hi => h i (by omega))
    obtain ⟨e, he⟩ := h n (by omega)
    refine ⟨E ++ [e], by simp [hl], fun i f hi => ?_⟩
    by_cases hin : i < E.length
    · rw [List.getElem?_append_left hin] at hi
      exact hE i f hi
    · have hil : i < (E ++ [e]).length := (List.getElem?_eq_some_iff.1 hi).1
      have : i = E.length := by simp at hil; omega
      subst this
      rw [List.getElem?_append_right (Nat.le_refl _), Nat.sub_self] at hi
      have : e = f := by simpa using hi
      subst this
      rw [hl]
      exact he

theorem open_ents {fuel : Nat} {v : Value} {x : DataW H × List MemPlace} (h : DataW.trod enc Try.prog w base sp held fuel 28 [v] = some x) :
    ∃ a n c E, v = .slice a n c ∧ Ents w.heap.size w a n E ∧ n ≤ maxLen ∧ (a = none → n = 0 ∧ c = 0) := by
  rcases DataW.trod_slice Try.underlying28 h with ⟨hcs, _⟩ | ⟨a, len, cap, elems, rest, m, _, hcs, _, _, hl, hm, hlen, hel, _⟩
  · injection hcs with hcs
    exact ⟨none, 0, 0, [], hcs, ⟨rfl, .inl rfl, by simp, by simp, by simp, by simp⟩, by unfold maxLen; omega, fun _ => ⟨rfl, rfl⟩⟩
  · injection hcs with hcs
    have each : ∀ i, i < len → ∃ e : Ent, (w.cell? ((a.add (i * 4)).add 0) = some (.string e.key) ∧ w.cell? ((a.add (i * 4)).add 1) = some e.val ∧ w.cell? ((a.add (i * 4)).add 2) = some (.int .u64 e.idx) ∧ w.cell? ((a.add (i * 4)).add 3) = some (.int .u64 e.lease)) ∧
        Byt 0 w.heap.size w e.val ∧ e.key.size ≤ maxLen ∧ (Lit.int .u64 e.idx).wf = true ∧ (Lit.int .u64 e.lease).wf = true := by
      intro i hi
      have h1 := hel i hi
      rw [c37, List.getElem?_eq_getElem (by omega), Option.bind_eq_some_iff] at h1
      obtain ⟨cs, h2, h3⟩ := h1
      obtain ⟨e, rfl, he⟩ := open_entry h3
      have hc := (World.cells?_some h2).2.2
      refine ⟨e, ⟨?_, ?_, ?_, ?_⟩, he⟩
      · exact (hc 0 (by omega)).trans rfl
      · exact (hc 1 (by omega)).trans rfl
      · exact (hc 2 (by omega)).trans rfl
      · exact (hc 3 (by omega)).trans rfl
    obtain ⟨E, hEl, hE⟩ := choose_list len each
    have mem : ∀ e ∈ E, Byt 0 w.heap.size w e.val ∧ e.key.size ≤ maxLen ∧ (Lit.int .u64 e.idx).wf = true ∧ (Lit.int .u64 e.lease).wf = true := by
      intro e he
      obtain ⟨i, hi⟩ := List.getElem?_of_mem he
      exact (hE i e hi).2
    refine ⟨some a, len, cap, E, hcs, ⟨hEl, ?_, fun e he => (mem e he).1, fun e he => (mem e he).2.1, fun e he => (mem e he).2.2.1, fun e he => (mem e he).2.2.2⟩, by omega, fun h => by cases h⟩
    by_cases h0 : len = 0
    · exact .inl h0
    · right
      obtain ⟨b, off, spot⟩ := a
      have hg0 : ∃ e, E[0]? = some e := ⟨_, List.getElem?_eq_getElem (by omega)⟩
      obtain ⟨e0, he0⟩ := hg0
      have hspot : spot = none := by simpa [Addr.add] using World.cell?_spot (hE 0 e0 he0).1.1
      subst hspot
      refine ⟨b, off, rfl, ?_, fun j e hj => ?_⟩
      · have := World.block_lt_of_cell? w _ (hE 0 e0 he0).1.1
        simpa [Addr.add] using this
      · have := (hE j e hj).1
        simp only [add_plain, Nat.add_zero] at this
        exact this

end
end Go.Proofs.Qxb6603799a

/-
  What comes in: a slice of strings.
-/
import Derived.Test.Qxb6603799aOpen
import Derived.Test.Qxb6603799aStr
namespace Go.Proofs.Qxb6603799a
open Go.ChangeShapes Go.WideShapes Go.ChangeAt Go.RowKit

theorem open_strs {H : Type} {enc : TypeId × Value → H} {w : World} {base : Nat} {sp : Nat → Bool} {held : Bool} {fuel : Nat} {v : Value} {x : DataW H × List MemPlace} (h : DataW.trod enc Try.prog w base sp held fuel 29 [v] = some x) :
    ∃ a n c L, v = .slice a n c ∧ Strs w.heap.size w a n L ∧ n ≤ maxLen ∧ (a = none → n = 0 ∧ c = 0) := by
  rcases open_strings Try.underlying29 Try.underlying9 (by kernel_rfl) h with ⟨hcs, _⟩ | ⟨a, l, c, ss, hcs, _, hl, hm, hz, _, hcell, hsz⟩
  · injection hcs with hcs
    exact ⟨none, 0, 0, [], hcs, ⟨rfl, .inl rfl, by simp⟩, by unfold maxLen; omega, fun _ => ⟨rfl, rfl⟩⟩
  · injection hcs with hcs
    have hzl : l ≤ ss.length := by rw [hz]; split <;> omega
    refine ⟨some a, l, c, ss.take l, hcs, ⟨by simp; omega, ?_, fun s hs => hsz s (List.mem_of_mem_take hs)⟩, by omega, fun h => by cases h⟩
    by_cases h0 : l = 0
    · exact .inl h0
    · right
      obtain ⟨b, off, spot⟩ := a
      have hspot : spot = none := by simpa [Addr.add] using World.cell?_spot (hcell 0 (by omega))
      subst hspot
      refine ⟨b, off, rfl, ?_, fun j s hj => ?_⟩
      · have := World.block_lt_of_cell? w _ (hcell 0 (by omega))
        simpa [Addr.add] using this
      · have hjl : j < l := by
          have := (List.getElem?_eq_some_iff.1 hj).1
          simp at this
          omega
        have hc := hcell j (by omega)
        rw [add_plain] at hc
        rw [hc]
        rw [List.getElem?_take, if_pos hjl] at hj
        simp [hj]

end Go.Proofs.Qxb6603799a

/-
  The probes of a holding's items.
-/
import Derived.Test.Qxb6603397aUnion
import Derived.BigQuiet
import Derived.LaidEqlPtr
namespace Go.Proofs.Qxb6603397a
open Go.RowKit Go.Maps

/-- Item k of a holding: its three cells. -/
structure ItemAt (w : World) (hb g n c k vb : Nat) (sv : Value) : Prop where
  c0 : w.cell? ⟨hb, 0, none⟩ = some (.slice (some ⟨g, 0, none⟩) n c)
  lt : k < n
  i0 : w.cell? ⟨g, k * 3, none⟩ = some (.pointer none)
  i1 : w.cell? ⟨g, k * 3 + 1, none⟩ = some (.pointer (some ⟨vb, 0, none⟩))
  i2 : w.cell? ⟨g, k * 3 + 2, none⟩ = some sv

theorem itemCells_at {items : List (Nat × Value)} {k vb : Nat} {sv : Value} (h : items[k]? = some (vb, sv)) : (itemCells items)[k * 3]? = some (.pointer none) ∧ (itemCells items)[k * 3 + 1]? = some (.pointer (some ⟨vb, 0, none⟩)) ∧ (itemCells items)[k * 3 + 2]? = some sv := by
  induction items generalizing k with
  | nil => simp at h
  | cons p r ih =>
    cases k with
    | zero => simp at h; subst h; simp [itemCells]
    | succ k =>
      have := ih (by simpa using h)
      have e : itemCells (p :: r) = .pointer none :: .pointer (some ⟨p.1, 0, none⟩) :: p.2 :: itemCells r := rfl
      have e1 : (k + 1) * 3 = k * 3 + 1 + 1 + 1 := by omega
      rw [e, e1]
      simpa using this

theorem itemCells_length (items : List (Nat × Value)) : (itemCells items).length = items.length * 3 := by
  induction items with
  | nil => rfl
  | cons p r ih =>
    have e : itemCells (p :: r) = .pointer none :: .pointer (some ⟨p.1, 0, none⟩) :: p.2 :: itemCells r := rfl
    rw [e]
    simp [ih]; omega

theorem Hold.item {w : World} {hb bm vm : Nat} {iv : Value} {items : List (Nat × Value)} {N : Nat} {D : DataW Unit} (h : Hold w hb bm vm iv items N D) {k vb : Nat} {sv : Value} (hk : items[k]? = some (vb, sv)) : ∃ g c, ItemAt w hb g items.length c k vb sv := by
  have hlt : k < items.length := (List.getElem?_eq_some_iff.1 hk).1
  obtain ⟨g, c, rfl⟩ : ∃ g c, iv = .slice (some ⟨g, 0, none⟩) items.length c := by
    have hr := h.rows
    rcases hr.2 with ⟨_, h0⟩ | ⟨g, cap, cur, rfl, _⟩
    · omega
    · exact ⟨_, _, rfl⟩
  have hc := itemCells_at hk
  refine ⟨g, c, h.c0, hlt, ?_, ?_, ?_⟩
  · exact (h.rows.cellAt (k * 3) (by omega)).trans hc.1
  · exact (h.rows.cellAt (k * 3 + 1) (by omega)).trans hc.2.1
  · exact (h.rows.cellAt (k * 3 + 2) (by omega)).trans hc.2.2

section
variable {w : World} {hb g n c k vb : Nat} {sv : Value}

set_option maxHeartbeats 400000 in
theorem validators49 (h : ItemAt w hb g n c k vb sv) : Calls Try.prog 49 #[.pointer (some ⟨hb, 0, none⟩), .int .i64 k] w fun e w' => e = .returned sv ∧ w' = w := by
  have c0 := h.c0
  have lt := h.lt
  have i2 := h.i2
  clear h
  go_enter Try.func49, Try.ntmps49
  go_wp2
  go_ret
  exact ⟨rfl, rfl⟩

theorem j69 : ∃ j : TypeInfo, Try.prog.info? 69 = some j ∧ j.size = 101 := by
  have h := i69
  cases hj : Try.prog.info? 69 with
  | none => rw [hj] at h; cases h
  | some j => rw [hj] at h; exact ⟨j, rfl, Option.some.inj h⟩

theorem eqNil78 (w : World) (a : Option Addr) (l c : Nat) : (binOp .eql 78 (.slice a l c) (.slice none 0 0)).run Try.prog w = .ok (.bool a.isNone) w := Lib.run_eql_slice_nil w 78 91 a l c 0 0 Try.underlying78

set_option maxHeartbeats 400000 in
theorem itemsNil36 (h : w.cell? ⟨hb, 0, none⟩ = some (.slice none 0 0)) : Calls Try.prog 36 #[.pointer (some ⟨hb, 0, none⟩)] w fun e w' => e = .returned (.bool true) ∧ w' = w := by
  have qs := fun (w : World) (a : Option Addr) (l c : Nat) => eqNil78 w a l c
  go_enter Try.func36, Try.ntmps36
  go_wp2
  go_ret
  exact ⟨rfl, rfl⟩

set_option maxHeartbeats 400000 in
theorem share38_same {k1 : Nat} {sv1 : Value} (h : ItemAt w hb g n c k vb sv) (h1 : ItemAt w hb g n c k1 vb sv1) : Calls Try.prog 38 #[.pointer (some ⟨hb, 0, none⟩), .int .i64 k, .int .i64 k1] w fun e w' => e = .returned (.bool true) ∧ ∃ q, w' = w.drewN q := by
  have c0 := h.c0
  have lt := h.lt
  have lt1 := h1.lt
  have i1 := h.i1
  have j1 := h1.i1
  have qs : ∀ q, (binOp .eql 89 (.pointer (some ⟨vb, 0, none⟩)) (.pointer (some ⟨vb, 0, none⟩))).run Try.prog (w.drewN q) = .ok (.bool true) (w.drewN q) := fun q => by obtain ⟨j, hj, _⟩ := j69; exact run_eql_ptr_same _ _ Try.underlying89 hj
  clear h h1
  go_enter Try.func38, Try.ntmps38
  go_wp2_with fail
  go_quiet (fail)
  clear qs
  go_wp2
  go_ret
  exact ⟨rfl, _, rfl⟩

set_option maxHeartbeats 400000 in
theorem share38_other {k1 vb1 : Nat} {sv1 : Value} (h : ItemAt w hb g n c k vb sv) (h1 : ItemAt w hb g n c k1 vb1 sv1) {ca cb : Array Value} {ta tb : TypeId} (he : vb ≠ vb1) (ha : w.heap[vb]? = some (.cells ca ta (0, 0))) (hb' : w.heap[vb1]? = some (.cells cb tb (0, 0))) : Calls Try.prog 38 #[.pointer (some ⟨hb, 0, none⟩), .int .i64 k, .int .i64 k1] w fun e w' => e = .returned (.bool false) ∧ ∃ q, w' = w.drewN q := by
  have c0 := h.c0
  have lt := h.lt
  have lt1 := h1.lt
  have i1 := h.i1
  have j1 := h1.i1
  have qs : ∀ q, (binOp .eql 89 (.pointer (some ⟨vb, 0, none⟩)) (.pointer (some ⟨vb1, 0, none⟩))).run Try.prog (w.drewN q) = .ok (.bool false) (w.drewN q) := fun q => by obtain ⟨j, hj, hs⟩ := j69; exact run_eql_ptr_other _ Try.underlying89 hj (by omega) (by simp) ha hb'
  clear h h1
  go_enter Try.func38, Try.ntmps38
  go_wp2_with fail
  go_quiet (fail)
  clear qs
  go_wp2
  go_ret
  exact ⟨rfl, _, rfl⟩

set_option maxHeartbeats 400000 in
theorem isVote47 {ga : Option Addr} {m gc : Nat} (h : ItemAt w hb g n c k vb (.slice ga m gc)) : Calls Try.prog 47 #[.pointer (some ⟨hb, 0, none⟩), .int .i64 k] w fun e w' => e = .returned (.bool true) ∧ Below w.heap.size w w' := by
  have c0 := h.c0
  have lt := h.lt
  have i0 := h.i0
  have i1 := h.i1
  have i2 := h.i2
  clear h
  go_enter Try.func47, Try.ntmps47
  go_wp2
  go_ret
  exact ⟨rfl, (Below.refl _ _).alloc (Nat.le_refl _) _⟩

end
end Go.Proofs.Qxb6603397a

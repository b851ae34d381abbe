/-
  voteItemIs.
-/
import Derived.Test.Qxb6603397aProbe4
import Derived.Stop.BytesEq
namespace Go.Proofs.Qxb6603397a
open Go.RowKit Go.Maps
open Extern.Stop (cell)

theorem bytes_cells {l : List Value} (h : Bytes l) : ∃ xs : List UInt8, l = xs.map cell ∧ xs.length = 32 := by
  have aux : ∀ m : List Value, (∀ v ∈ m, ∃ x, v = .int .u8 x ∧ (Lit.int .u8 x).wf = true) → ∃ xs : List UInt8, m = xs.map cell := by
    intro m
    induction m with
    | nil => intro _; exact ⟨[], rfl⟩
    | cons a r ih =>
      intro hm
      obtain ⟨xs, rfl⟩ := ih (fun v hv => hm v (by simp [hv]))
      obtain ⟨x, rfl, hw⟩ := hm a (by simp)
      have hx : IntKind.u8.min ≤ x ∧ x ≤ IntKind.u8.max := by simpa [Lit.wf] using hw
      have hx' : 0 ≤ x ∧ x ≤ 255 := hx
      refine ⟨UInt8.ofNat x.toNat :: xs, ?_⟩
      simp [cell]
      omega
  obtain ⟨xs, hx⟩ := aux l h.2
  exact ⟨xs, hx, by have := h.1; rw [hx] at this; simpa using this⟩

theorem eqBytes48 {l : List Value} (h : Bytes l) (w : World) : (binOp .eql 48 (.agg l.toArray) (.agg l.toArray)).run Try.prog w = .ok (.bool true) w := by
  obtain ⟨xs, rfl, hl⟩ := bytes_cells h
  rw [run_eql_bytes w 48 5 32 Try.underlying48 Try.underlying5 (fun w => by kernel_rfl) xs xs hl hl]
  simp

theorem wpList_want {P : Program} {ops : Array Oper} {rest : List Oper} {o : Oper} {a : Act} {w : World} {Q : Exit → Act → World → Prop} (hw : Region.wanted o (yielded ops a.tmps) = true)
    (h : ∀ K : Act → World → Prop, (∀ a w, wpList P ops Q rest a w → K a w) → o.wp P a w K Q) : wpList P ops Q (o :: rest) a w :=
  wpList_step fun K hK => by simp only [hw, if_true]; exact h K hK

/-- A load under a guard that holds. -/
theorem wpList_load_want {P : Program} {ops : Array Oper} {rest : List Oper} {op : Oper} {a : Act} {w : World} {Q : Exit → Act → World → Prop} (hw : Region.wanted op (yielded ops a.tmps) = true) (ty : TypeId) (x : Operand) (ho : op.op = .load ty x)
    (b o : Nat) (hx : a.eval x = .pointer (some ⟨b, o, none⟩)) (cs : List Value) (d : TypeDesc) (hc : w.rangeAt b o cs)
    (hu : P.underlying ty = some d) (hd : d.isRow = true) (hi : (P.info? ty).map (·.size) = some cs.length)
    (h : wpList P ops Q rest (a.put op.dst (.agg cs.toArray)) w) : wpList P ops Q (op :: rest) a w :=
  wpList_want hw fun _ hK => wp_load_mid ty x ho b o hx cs d hc hu hd hi (hK _ _ h)

/-- What voteItemIs is told of an item. -/
structure ItemOk (w : World) (hb vm N : Nat) (D : DataW Unit) (g n c k vb : Nat) (ga : Option Addr) (m gc : Nat) (Y : List Int) (sl ix se te : Int) (hd sr tr : List Value) (fb : Bool) (kl : Lit) : Prop where
  item : ItemAt w hb g n c k vb (.slice ga m gc)
  list : Sl w.heap.size w ga m gc Y
  c2 : w.cell? ⟨hb, 2, none⟩ = some (.map (some vm))
  vot : w.ownsMap Try.prog 69 ptrElem vm N D
  cells : w.rangeAt vb 0 (keyL sl ix se te hd sr tr fb)
  key : keyOf Try.prog 69 (.agg (keyL sl ix se te hd sr tr fb).toArray) = some kl
  at' : D.atKey kl .nil = .lit (.int .i64 vb)
  has : Maps.has D kl = true

theorem ItemAt.below {w w' : World} {hb g n c k vb : Nat} {sv : Value} (h : ItemAt w hb g n c k vb sv) (hb' : Below w.heap.size w w') : ItemAt w' hb g n c k vb sv :=
  ⟨(hb'.cell (p := ⟨hb, 0, none⟩) (World.block_lt_of_cell? w _ h.c0)).trans h.c0, h.lt, (hb'.cell (p := ⟨g, k * 3, none⟩) (World.block_lt_of_cell? w _ h.i0)).trans h.i0, (hb'.cell (p := ⟨g, k * 3 + 1, none⟩) (World.block_lt_of_cell? w _ h.i1)).trans h.i1, (hb'.cell (p := ⟨g, k * 3 + 2, none⟩) (World.block_lt_of_cell? w _ h.i2)).trans h.i2⟩

theorem ItemOk.below {w w' : World} {hb vm N : Nat} {D : DataW Unit} {g n c k vb : Nat} {ga : Option Addr} {m gc : Nat} {Y : List Int} {sl ix se te : Int} {hd sr tr : List Value} {fb : Bool} {kl : Lit} (h : ItemOk w hb vm N D g n c k vb ga m gc Y sl ix se te hd sr tr fb kl) (hb' : Below w.heap.size w w') : ItemOk w' hb vm N D g n c k vb ga m gc Y sl ix se te hd sr tr fb kl :=
  ⟨h.item.below hb', (h.list.below hb').mono hb'.size, (hb'.cell (p := ⟨hb, 2, none⟩) (World.block_lt_of_cell? w _ h.c2)).trans h.c2, ownsMap_below h.vot hb', (fun j v hj => (hb'.cell (p := ⟨vb, 0 + j, none⟩) (World.block_lt_of_cell? w _ (h.cells j v hj))).trans (h.cells j v hj)), h.key, h.at', h.has⟩

end Go.Proofs.Qxb6603397a

/-
  Words for worlds, entries and byte slices that all walks of this seat share.
-/
import Derived.Test.Qxb6603799aRows
import Derived.WalkKit
import Derived.WalkSpells
import Derived.WalkLawsBesides
import Derived.Deep.QuietTactic
import Derived.BigQuiet
import Derived.Maps.OwnSet
import Derived.Maps.AppendAt
import Derived.Below
namespace Go.Proofs.Qxb6603799a
open Go.RowKit

theorem hide {p : Prop} (h : p) : Hid p := h
theorem unhide {p : Prop} (h : Hid p) : p := h

theorem Below.trans' {a b c : World} (h : Below a.heap.size a b) (k : Below b.heap.size b c) : Below a.heap.size a c := h.trans (k.mono h.size)

/-- An entry: its key, its value (a slice), its index, its lease. -/
structure Ent where
  key : ByteArray
  val : Value
  idx : Int
  lease : Int

/-- A slice of bytes, all in blocks from A to below B. -/
def Byt (A B : Nat) (w : World) (v : Value) : Prop :=
  ∃ a n c, v = .slice a n c ∧ n ≤ c ∧ c ≤ maxLen ∧ (a = none → c = 0) ∧ (n = 0 ∨ ∃ b off, a = some ⟨b, off, none⟩ ∧ A ≤ b ∧ b < B ∧ ∀ j, j < n → ∃ x, w.cell? ⟨b, off + j, none⟩ = some (.int .u8 x))

theorem Byt.other {A B : Nat} {w w' : World} {v : Value} (h : Byt A B w v) (hb : ∀ k, A ≤ k → k < B → w'.heap[k]? = w.heap[k]?) : Byt A B w' v := by
  obtain ⟨a, n, c, h1, h2, h3, h4, h5⟩ := h
  refine ⟨a, n, c, h1, h2, h3, h4, ?_⟩
  rcases h5 with h5 | ⟨b, off, e, hle, hlt, hc⟩
  · exact .inl h5
  · refine .inr ⟨b, off, e, hle, hlt, fun j hj => ?_⟩
    obtain ⟨x, hx⟩ := hc j hj
    exact ⟨x, (World.cell?_of_block (w := w) (hb b hle hlt)).trans hx⟩

theorem Byt.below {A B : Nat} {w w' : World} {v : Value} (h : Byt A B w v) (hb : Below B w w') : Byt A B w' v := h.other (fun k _ hk => hb.block k hk)

theorem Byt.mono {A A' B B' : Nat} {w : World} {v : Value} (h : Byt A B w v) (ha : A' ≤ A) (hb : B ≤ B') : Byt A' B' w v := by
  obtain ⟨a, n, c, h1, h2, h3, h4, h5⟩ := h
  refine ⟨a, n, c, h1, h2, h3, h4, ?_⟩
  rcases h5 with h5 | ⟨b, off, e, hle, hlt, hc⟩
  · exact .inl h5
  · exact .inr ⟨b, off, e, by omega, by omega, hc⟩

/-- The cells of entry j of a row at (b, off). -/
def At (w : World) (b off j : Nat) (e : Ent) : Prop :=
  w.cell? ⟨b, off + j * 4, none⟩ = some (.string e.key) ∧ w.cell? ⟨b, off + j * 4 + 1, none⟩ = some e.val ∧ w.cell? ⟨b, off + j * 4 + 2, none⟩ = some (.int .u64 e.idx) ∧ w.cell? ⟨b, off + j * 4 + 3, none⟩ = some (.int .u64 e.lease)

/-- The slice (a, n) holds the entries E, in a block below B. -/
structure Ents (B : Nat) (w : World) (a : Option Addr) (n : Nat) (E : List Ent) : Prop where
  len : E.length = n
  cell : n = 0 ∨ ∃ b off, a = some ⟨b, off, none⟩ ∧ b < B ∧ ∀ j e, E[j]? = some e → At w b off j e
  val : ∀ e ∈ E, Byt 0 B w e.val
  key : ∀ e ∈ E, e.key.size ≤ maxLen
  idx : ∀ e ∈ E, (Lit.int .u64 e.idx).wf = true
  lea : ∀ e ∈ E, (Lit.int .u64 e.lease).wf = true

theorem At.below {B : Nat} {w w' : World} {b off j : Nat} {e : Ent} (h : At w b off j e) (hb : Below B w w') (hlt : b < B) : At w' b off j e :=
  ⟨(hb.cell (by exact hlt)).trans h.1, (hb.cell (by exact hlt)).trans h.2.1, (hb.cell (by exact hlt)).trans h.2.2.1, (hb.cell (by exact hlt)).trans h.2.2.2⟩

theorem Ents.below {B : Nat} {w w' : World} {a : Option Addr} {n : Nat} {E : List Ent} (h : Ents B w a n E) (hb : Below B w w') : Ents B w' a n E := by
  refine ⟨h.len, ?_, fun e he => (h.val e he).below hb, h.key, h.idx, h.lea⟩
  rcases h.cell with h0 | ⟨b, off, rfl, hlt, hc⟩
  · exact .inl h0
  · exact .inr ⟨b, off, rfl, hlt, fun j e hj => (hc j e hj).below hb hlt⟩

theorem Ents.mono {B B' : Nat} {w : World} {a : Option Addr} {n : Nat} {E : List Ent} (h : Ents B w a n E) (hb : B ≤ B') : Ents B' w a n E := by
  refine ⟨h.len, ?_, fun e he => (h.val e he).mono (Nat.le_refl _) hb, h.key, h.idx, h.lea⟩
  rcases h.cell with h0 | ⟨b, off, rfl, hlt, hc⟩
  · exact .inl h0
  · exact .inr ⟨b, off, rfl, by omega, hc⟩

theorem Ents.get {B : Nat} {w : World} {a : Option Addr} {n : Nat} {E : List Ent} (h : Ents B w a n E) {k : Nat} (hk : k < n) :
    ∃ b off e, a = some ⟨b, off, none⟩ ∧ b < B ∧ E[k]? = some e ∧ At w b off k e := by
  rcases h.cell with h0 | ⟨b, off, ha, hlt, hc⟩
  · omega
  · have hl : k < E.length := by rw [h.len]; exact hk
    exact ⟨b, off, E[k], ha, hlt, List.getElem?_eq_getElem hl, hc k _ (List.getElem?_eq_getElem hl)⟩

theorem Ents.step {w w' : World} {a : Option Addr} {n : Nat} {E : List Ent} (h : Ents w.heap.size w a n E) (hb : Below w.heap.size w w') : Ents w'.heap.size w' a n E := (h.below hb).mono hb.size

theorem Byt.step {A : Nat} {w w' : World} {v : Value} (h : Byt A w.heap.size w v) (hb : Below w.heap.size w w') : Byt A w'.heap.size w' v := (h.below hb).mono (Nat.le_refl _) hb.size

end Go.Proofs.Qxb6603799a

/-
  ZZHoldingItemVote.
-/
import Derived.Test.Qxb6603397aProbe2
import Derived.StillTail
namespace Go.Proofs.Qxb6603397a
open Go.RowKit Go.Maps

theorem wpStill_load_mid {P : Program} {ops : Array Oper} {w : World} {Q : Act → Prop} {a : Act} {o : Oper} {rest : List Oper} (hgd : o.guard = none) (ty : TypeId) (x : Operand) (ho : o.op = .load ty x)
    (g off : Nat) (hx : a.eval x = .pointer (some ⟨g, off, none⟩)) (cs : List Value) (d : TypeDesc) (hg : w.rangeAt g off cs)
    (hu : P.underlying ty = some d) (hd : d.isRow = true) (hi : (P.info? ty).map (·.size) = some cs.length)
    (h : wpStill P ops w Q rest (a.put o.dst (.agg cs.toArray))) : wpStill P ops w Q (o :: rest) a := by
  have hw : Region.wanted o (yielded ops a.tmps) = true := by simp [Region.wanted, hgd]
  unfold wpStill
  rw [if_pos hw]
  unfold Oper.still execOp
  simp only [ho, hx]
  rw [Sem.run_bind, run_loadAt_mid w g off ty cs _ hg hu hd hi]
  exact ⟨rfl, h⟩

/-- A row laid over a block's cells: the world behind it, told by what it keeps. -/
theorem wpList_store_any {P : Program} {ops : Array Oper} {rest : List Oper} {o : Oper} {a : Act} {w : World} {Q : Exit → Act → World → Prop} (hgd : o.guard = none) (ty : TypeId) (x y : Operand) (ho : o.op = .store ty x y)
    (g : Nat) (cells : Array Value) (hx : a.eval x = .pointer (some ⟨g, 0, none⟩)) (hy : a.eval y = .agg cells) (t : TypeId) (old : Array Value) (hg : w.heap[g]? = some (.cells old t (0, 0)))
    (hi : (P.info? ty).map (·.size) = some cells.size) (hold : old.size = cells.size) (h1 : cells.all (·.oneCell') = true)
    (h : ∀ w', Keep (fun i => i = g) w w' → w'.heap.size = w.heap.size → w'.heap[g]? = some (.cells cells t (0, 0)) → wpList P ops Q rest (a.put o.dst undef) w') : wpList P ops Q (o :: rest) a w := by
  refine wpList_store_row hgd ty x y ho g cells hx hy t old hg hi hold h1 (h _ ⟨rfl, rfl, rfl, ?_, ?_⟩ ?_ (setRow_heap w g old cells t (0, 0) hg))
  · simp [World.setRow]
  · intro k hk hne
    simp [World.setRow, Array.getElem?_modify, Ne.symm hne]
  · simp [World.setRow]

structure VoteFacts (w : World) (vb : Nat) (sl ix se te : Int) (hd sr tr : List Value) (fb : Bool) : Prop where
  c0 : w.cell? ⟨vb, 0, none⟩ = some (.int .u64 sl)
  c1 : w.cell? ⟨vb, 1, none⟩ = some (.int .u64 ix)
  r2 : w.rangeAt vb 2 hd
  c34 : w.cell? ⟨vb, 34, none⟩ = some (.int .u64 se)
  r35 : w.rangeAt vb 35 sr
  c67 : w.cell? ⟨vb, 67, none⟩ = some (.int .u64 te)
  r68 : w.rangeAt vb 68 tr
  c100 : w.cell? ⟨vb, 100, none⟩ = some (.bool fb)

theorem range_sub {w : World} {g : Nat} {K : List Value} (h : w.rangeAt g 0 K) (o : Nat) (xs : List Value) (hx : ∀ j v, xs[j]? = some v → K[o + j]? = some v) : w.rangeAt g o xs := fun j v hj => by
  have := h (o + j) v (hx j v hj)
  simpa using this

theorem VoteFacts.mk' {w : World} {vb : Nat} {sl ix se te : Int} {hd sr tr : List Value} {fb : Bool} (hA : Arrs hd sr tr) (h : w.rangeAt vb 0 (keyL sl ix se te hd sr tr fb)) : VoteFacts w vb sl ix se te hd sr tr fb := by
  have one : ∀ o v, (keyL sl ix se te hd sr tr fb)[o]? = some v → w.cell? ⟨vb, o, none⟩ = some v := fun o v hv => by simpa using h o v hv
  have e : keyL sl ix se te hd sr tr fb = [.int .u64 sl, .int .u64 ix] ++ (hd ++ ((.int .u64 se :: sr) ++ ((.int .u64 te :: tr) ++ [.bool fb]))) := by simp [keyL, datL, cpL]
  refine ⟨one 0 _ rfl, one 1 _ rfl, range_sub h 2 hd ?_, one 34 _ ?_, range_sub h 35 sr ?_, one 67 _ ?_, range_sub h 68 tr ?_, one 100 _ ?_⟩
  · intro j v hv
    rw [e]
    exact mid_get (by rfl) j v hv
  · have := mid_get (a := [.int .u64 sl, .int .u64 ix] ++ hd) (b := .int .u64 se :: sr) (c := (.int .u64 te :: tr) ++ [.bool fb]) (o := 34) (by simp [hA.l1]) 0 (.int .u64 se) rfl
    rw [e]; simpa using this
  · intro j v hv
    have := mid_get (a := [.int .u64 sl, .int .u64 ix] ++ hd ++ [.int .u64 se]) (b := sr) (c := (.int .u64 te :: tr) ++ [.bool fb]) (o := 35) (by simp [hA.l1]) j v hv
    rw [e]; simpa using this
  · have := mid_get (a := [.int .u64 sl, .int .u64 ix] ++ hd ++ (.int .u64 se :: sr)) (b := .int .u64 te :: tr) (c := [.bool fb]) (o := 67) (by simp [hA.l1, hA.l2]) 0 (.int .u64 te) rfl
    rw [e]; simpa using this
  · intro j v hv
    have := mid_get (a := [.int .u64 sl, .int .u64 ix] ++ hd ++ (.int .u64 se :: sr) ++ [.int .u64 te]) (b := tr) (c := [.bool fb]) (o := 68) (by simp [hA.l1, hA.l2]) j v hv
    rw [e]; simpa using this
  · have := mid_get (a := [.int .u64 sl, .int .u64 ix] ++ hd ++ (.int .u64 se :: sr) ++ (.int .u64 te :: tr)) (b := [.bool fb]) (c := []) (o := 100) (by simp [hA.l1, hA.l2, hA.l3]) 0 (.bool fb) rfl
    rw [e]; simpa using this

theorem VoteFacts.below {B : Nat} {w w' : World} {vb : Nat} {sl ix se te : Int} {hd sr tr : List Value} {fb : Bool} (h : VoteFacts w vb sl ix se te hd sr tr fb) (hb : Below B w w') (hv : vb < B) : VoteFacts w' vb sl ix se te hd sr tr fb :=
  ⟨(hb.cell (p := ⟨vb, 0, none⟩) hv).trans h.c0, (hb.cell (p := ⟨vb, 1, none⟩) hv).trans h.c1, (fun j v hj => (hb.cell (p := ⟨vb, 2 + j, none⟩) hv).trans (h.r2 j v hj)), (hb.cell (p := ⟨vb, 34, none⟩) hv).trans h.c34,
    (fun j v hj => (hb.cell (p := ⟨vb, 35 + j, none⟩) hv).trans (h.r35 j v hj)), (hb.cell (p := ⟨vb, 67, none⟩) hv).trans h.c67, (fun j v hj => (hb.cell (p := ⟨vb, 68 + j, none⟩) hv).trans (h.r68 j v hj)), (hb.cell (p := ⟨vb, 100, none⟩) hv).trans h.c100⟩

end Go.Proofs.Qxb6603397a

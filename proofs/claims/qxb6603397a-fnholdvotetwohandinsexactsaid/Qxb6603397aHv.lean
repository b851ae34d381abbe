/-
  (*holding).holdVote.
-/
import Derived.Test.Qxb6603397aClone54
import Derived.Deep.RegionHeld3
import Derived.BigRegion
namespace Go.Proofs.Qxb6603397a
open Go.RowKit Go.Maps

/-- How a *heldVoters reads: as the number of its block. -/
def ptrElem : Value → Option (DataW Unit × List MemPlace)
  | .pointer (some ⟨b, 0, none⟩) => some (.lit (.int .i64 b), [])
  | .pointer none => some (.nil, [])
  | _ => none

theorem ptrElem_mk (b : Nat) : ptrElem (.pointer (some ⟨b, 0, none⟩)) = some (.lit (.int .i64 b), []) := rfl
theorem ptrElem_inv {v : Value} {b : Nat} {ps : List MemPlace} (h : ptrElem v = some (.lit (.int .i64 b), ps)) : v = .pointer (some ⟨b, 0, none⟩) := by
  unfold ptrElem at h
  split at h
  · simp at h
    rw [Int.ofNat_inj.1 h.1]
  · simp at h
  · cases h

theorem load69_rule (w : World) (b : Nat) (K : List Value) (hb : w.heap[b]? = some (.cells K.toArray 69 (0, 0))) (hK : K.length = 101) : (Instr.loadAt 69 (.pointer (some ⟨b, 0, none⟩))).run Try.prog w = .ok (.agg K.toArray) w :=
  run_loadAt_mid w b 0 69 K _ (range_of hb 0 K (fun j v h => by simpa using h)) Try.underlying69 rfl (by rw [i69, hK])

theorem keyL_length {sl ix se te : Int} {hd sr tr : List Value} {fb : Bool} (h : Arrs hd sr tr) : (keyL sl ix se te hd sr tr fb).length = 101 := by
  simp [keyL, datL_length h.l1 h.l2 h.l3]

structure HvFacts (v : Value) (sl ix se te : Int) (hd sr tr : List Value) (fb : Bool) : Prop where
  s82 : (Try.prog.info? 82).map (·.size) = some (attL v sl ix se te hd sr tr).toArray.size
  s69 : (Try.prog.info? 69).map (·.size) = some (keyL sl ix se te hd sr tr fb).toArray.size
  z69 : Try.zeroCells69.size = (keyL sl ix se te hd sr tr fb).toArray.size
  o69 : (keyL sl ix se te hd sr tr fb).toArray.all (·.oneCell') = true
  arr : Arrs hd sr tr

theorem HvFacts.mk' {v : Value} {sl ix se te : Int} {hd sr tr : List Value} {fb : Bool} (hA : Arrs hd sr tr) : HvFacts v sl ix se te hd sr tr fb := by
  refine ⟨by rw [i82]; simp [attL_length hA], by rw [i69]; simp [keyL_length hA], by rw [zero69_size]; simp [keyL_length hA], all_one ?_, hA⟩
  intro x hx
  rcases List.mem_append.1 hx with hx | hx
  · exact datL_one hA x hx
  · simp at hx; subst hx; rfl

theorem zeroPtr (w : World) : (zeroValue 37).run Try.prog w = .ok (.pointer none) w := by kernel_rfl

/-- The look-up in the voters map, at whatever count of draws. -/
theorem look77 {w : World} {vm N : Nat} {D : DataW Unit} (L : Keyed Try.prog 69) (h : w.ownsMap Try.prog 69 ptrElem vm N D) {key : Value} {kl : Lit} (hk : keyOf Try.prog 69 key = some kl) {pv : Value}
    (hp : ∀ v ps, ptrElem v = some (D.atKey kl .nil, ps) → v = pv) : ∀ n, (Instr.lookup 77 (.map (some vm)) key true).run Try.prog (w.drewN n) = .ok (.tuple #[pv, .bool (Maps.has D kl)]) (w.drewN n) := by
  intro n
  have h' : (w.drewN n).ownsMap Try.prog 69 ptrElem vm N D := h
  obtain ⟨v, ps, hr, hv⟩ := h'.look_ok L Try.underlying77 (zeroPtr _) (zd := .nil) (zp := []) rfl hk
  rw [hp v ps hv] at hr
  exact hr

/-- A whole struct read out of its own block, in a region that only reads. -/
theorem wpQuiet_load_row {P : Program} {ops : Array Oper} {C : World → Prop} {Q : Act → Prop} {a : Act} {o : Oper} {rest : List Oper} (hgd : o.guard = none) (ty : TypeId) (x : Operand) (ho : o.op = .load ty x)
    (g : Nat) (hx : a.eval x = .pointer (some ⟨g, 0, none⟩)) (t : TypeId) (cs : Array Value) (fr : Nat × Nat) (d : TypeDesc) (hg : ∀ w, C w → w.heap[g]? = some (.cells cs t fr))
    (hu : P.underlying ty = some d) (hd : (match d with | .struct _ | .array _ _ => true | _ => false) = true) (hi : (P.info? ty).map (·.size) = some cs.size)
    (h : wpQuiet P ops C Q rest (a.put o.dst (.agg cs))) : wpQuiet P ops C Q (o :: rest) a := by
  have hw : Region.wanted o (yielded ops a.tmps) = true := by simp [Region.wanted, hgd]
  unfold wpQuiet
  rw [if_pos hw]
  refine ⟨.agg cs, fun w hC => ?_, h⟩
  unfold Oper.quietAt execOp
  simp only [ho, hx, Instr.loadAt, Instr.sureAddr, Sem.run_bind, Sem.run_pure, Result.andThen_ok, run_loadVar_row w g t ty cs fr d (hg w hC) hu hd hi]
  exact ⟨rfl, rfl⟩


/-- The items as cells. -/
def itemCells (items : List (Nat × Value)) : List Value := items.flatMap (fun p => [.pointer none, .pointer (some ⟨p.1, 0, none⟩), p.2])

/-- A holding in memory: its block hb, its maps bm and vm, its items. -/
structure Hold (w : World) (hb bm vm : Nat) (iv : Value) (items : List (Nat × Value)) (N : Nat) (D : DataW Unit) : Prop where
  c0 : w.cell? ⟨hb, 0, none⟩ = some iv
  f0 : w.frozen? ⟨hb, 0, none⟩ = false
  c1 : w.cell? ⟨hb, 1, none⟩ = some (.map (some bm))
  c2 : w.cell? ⟨hb, 2, none⟩ = some (.map (some vm))
  rows : w.ownsRow (hb + 1) 91 3 iv items.length (itemCells items)
  vot : w.ownsMap Try.prog 69 ptrElem vm N D
  blk : w.ownsMap Try.prog 59 ptrElem bm 0 (.map [])
  lt1 : bm < hb
  lt2 : vm < hb
  ne : bm ≠ vm

theorem Hold.lt {w : World} {hb bm vm : Nat} {iv : Value} {items : List (Nat × Value)} {N : Nat} {D : DataW Unit} (h : Hold w hb bm vm iv items N D) : hb < w.heap.size := World.block_lt_of_cell? w _ h.c0

theorem ownsMap_keep {S : Nat → Prop} {H : Type} {P : Program} {k : TypeId} {R : Value → Option (DataW H × List MemPlace)} {w w' : World} {b n : Nat} {D : DataW H} (h : w.ownsMap P k R b n D) (hk : Keep S w w') (hs : ¬ S b) : w'.ownsMap P k R b n D := by
  obtain ⟨es, clock, hh, r⟩ := h
  exact ⟨es, clock, by rw [hk.block b (Array.getElem?_eq_some_iff.1 hh).1 hs]; exact hh, r⟩

theorem Hold.keep {S : Nat → Prop} {w w' : World} {hb bm vm : Nat} {iv : Value} {items : List (Nat × Value)} {N : Nat} {D : DataW Unit} (h : Hold w hb bm vm iv items N D) (hk : Keep S w w') (s1 : ¬ S hb) (s2 : ¬ S bm) (s3 : ¬ S vm) (s4 : ∀ g, iv.ownBlock = some g → ¬ S g) : Hold w' hb bm vm iv items N D :=
  ⟨(hk.cell (p := ⟨hb, 0, none⟩) h.lt s1).trans h.c0, (hk.frozen (p := ⟨hb, 0, none⟩) h.lt s1).trans h.f0, (hk.cell (p := ⟨hb, 1, none⟩) h.lt s1).trans h.c1, (hk.cell (p := ⟨hb, 2, none⟩) h.lt s1).trans h.c2, ownsRow_keep h.rows hk s4, ownsMap_keep h.vot hk s3, ownsMap_keep h.blk hk s2, h.lt1, h.lt2, h.ne⟩

theorem Hold.below {w w' : World} {hb bm vm : Nat} {iv : Value} {items : List (Nat × Value)} {N : Nat} {D : DataW Unit} (h : Hold w hb bm vm iv items N D) (hb' : Below w.heap.size w w') : Hold w' hb bm vm iv items N D :=
  h.keep (S := fun _ => False) (Keep.of_below hb') (fun h => h) (fun h => h) (fun h => h) (fun _ _ h => h)

theorem Try.info91 : (Try.prog.info? 91).map (fun i => (i.zero, i.size, i.bytes)) = some (some (.agg #[.pointer none, .pointer none, .slice none 0 0]), 3, 40) := by kernel_rfl

end Go.Proofs.Qxb6603397a

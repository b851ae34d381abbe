/-
  A heldVoters in memory; has.
-/
import Derived.Test.Qxb6603397aSearch
namespace Go.Proofs.Qxb6603397a
open Go.RowKit Go.Maps

theorem law39 : Keyed Try.prog 39 := int_keyed Try.underlying39
theorem zero73 (w : World) : (zeroValue 73).run Try.prog w = .ok (.agg #[]) w := by kernel_rfl

/-- The set that holds just the numbers of L. -/
def setL (L : List Int) : DataW Unit := setOf (.agg []) (L.map (Lit.int .u64))
theorem setL_nil : setL [] = .map [] := rfl
theorem setL_snoc (L : List Int) (x : Int) : setL (L ++ [x]) = (setL L).put (.int .u64 x) (.agg []) := by
  unfold setL
  rw [List.map_append, List.map_singleton, setOf_snoc]

theorem any_u64 (x : Int) : ∀ l : List Int, l.any ((fun y : Lit => y.sameKey (.int .u64 x)) ∘ Lit.int .u64) = l.contains x
  | [] => rfl
  | a :: r => by
    rw [List.any_cons, List.contains_cons, any_u64 x r]
    congr 1
    show decide (IntKind.u64 = IntKind.u64 ∧ a = x) = (x == a)
    by_cases e : a = x
    · subst e
      simp
    · have e' : ¬ x = a := fun h => e h.symm
      simp [e, e']

theorem has_setL (L : List Int) (x : Int) : Maps.has (setL L) (.int .u64 x) = inB L x := by
  unfold setL
  rw [has_setOf _ _ _ (fun y hy => by obtain ⟨_, _, rfl⟩ := List.mem_map.1 hy; trivial), List.any_map]
  exact any_u64 x L

/-- How many different numbers L has. -/
def dist (L : List Int) : Nat := Maps.size (setL L)
theorem dist_nil : dist [] = 0 := rfl
theorem tidy_setL (L : List Int) : Tidy (setL L) := tidy_setOf _ _ (fun y hy => by obtain ⟨_, _, rfl⟩ := List.mem_map.1 hy; trivial)
theorem dist_snoc (L : List Int) (x : Int) : dist (L ++ [x]) = if inB L x then dist L else dist L + 1 := by
  unfold dist
  rw [setL_snoc, size_put (tidy_setL L), has_setL]

/-- v lies in block vb: its first list F, its set (m: nil or a block) and all that it holds, L. -/
structure Held (w : World) (vb : Nat) (fa : Option Addr) (fc : Nat) (F : List Int) (m : Option Nat) (L : List Int) : Prop where
  first : w.cell? ⟨vb, 101, none⟩ = some (.slice fa F.length fc)
  vals : w.cell? ⟨vb, 102, none⟩ = some (.map m)
  free : w.frozen? ⟨vb, 102, none⟩ = false
  row : Sl vb w fa F.length fc F
  nomap : m = none → L = F
  ismap : ∀ mb, m = some mb → vb < mb ∧ w.ownsMap Try.prog 39 unitElem mb L.length (setL L)

theorem Held.lt {w : World} {vb : Nat} {fa : Option Addr} {fc : Nat} {F : List Int} {m : Option Nat} {L : List Int} (h : Held w vb fa fc F m L) : vb < w.heap.size := World.block_lt_of_cell? w _ h.first

theorem ownsMap_below {H : Type} {P : Program} {k : TypeId} {R : Value → Option (DataW H × List MemPlace)} {w w' : World} {b n : Nat} {D : DataW H} (h : w.ownsMap P k R b n D) (hb : Below w.heap.size w w') : w'.ownsMap P k R b n D := by
  obtain ⟨es, clock, hh, r⟩ := h
  exact ⟨es, clock, by rw [hb.block b (Array.getElem?_eq_some_iff.1 hh).1]; exact hh, r⟩

/-- Nothing old has turned: v is as it was. -/
theorem Held.below {w w' : World} {vb : Nat} {fa : Option Addr} {fc : Nat} {F : List Int} {m : Option Nat} {L : List Int} (h : Held w vb fa fc F m L) (hb : Below w.heap.size w w') : Held w' vb fa fc F m L :=
  ⟨(hb.cell (p := ⟨vb, 101, none⟩) h.lt).trans h.first, (hb.cell (p := ⟨vb, 102, none⟩) h.lt).trans h.vals, (hb.frozen (p := ⟨vb, 102, none⟩) h.lt).trans h.free,
    h.row.below (hb.mono (Nat.le_of_lt h.lt)), h.nomap, fun mb hm => ⟨(h.ismap mb hm).1, ownsMap_below (h.ismap mb hm).2 hb⟩⟩

set_option maxHeartbeats 400000 in
theorem has45_none {w : World} {vb : Nat} {fa : Option Addr} {fc : Nat} {F : List Int} {L : List Int} (h : Held w vb fa fc F none L) (hs : incB F = true) (hl : F.length ≤ 140737488355328) (x : Int) :
    Calls Try.prog 45 #[.pointer (some ⟨vb, 0, none⟩), .int .u64 x] w fun e w' => e = .returned (.bool (inB L x)) ∧ Below w.heap.size w w' := by
  have q1 := eqNil70
  have c1 := h.first
  have c2 := h.vals
  have hrow := h.row
  have hL := h.nomap rfl
  subst hL
  generalize hn : L.length = n at *
  have HN := hide hn
  clear hn h
  go_enter Try.func45, Try.ntmps45
  go_wp2_with fail
  refine (bs52 hrow hl hs x).mono ?_
  rintro e w' ⟨i, rfl, rfl⟩
  go_wp2
  go_ret
  exact ⟨rfl, Below.refl _ _⟩

set_option maxHeartbeats 400000 in
theorem has45_some {w : World} {vb : Nat} {fa : Option Addr} {fc : Nat} {F : List Int} {mb : Nat} {L : List Int} (h : Held w vb fa fc F (some mb) L) (x : Int) (hx : (Lit.int .u64 x).wf = true) :
    Calls Try.prog 45 #[.pointer (some ⟨vb, 0, none⟩), .int .u64 x] w fun e w' => e = .returned (.bool (inB L x)) ∧ Below w.heap.size w w' := by
  have q1 := eqNil70
  have c1 := h.first
  have c2 := h.vals
  have hown := (h.ismap mb rfl).2
  have hkey : keyOf Try.prog 39 (.int .u64 x) = some (.int .u64 x) := keyOf_int_mk Try.underlying39 hx
  clear h hx
  go_enter Try.func45, Try.ntmps45
  go_wp2_with (at_lookup; refine wpList_lookup_own_unit _ rfl _ _ 70 rfl 39 73 law39 Try.underlying70 (zero73 _) mb _ _ rfl hown _ _ rfl hkey ?_)
  go_ret
  refine ⟨?_, (Below.refl _ _).alloc (Nat.le_refl _) _⟩
  rw [← has_setL]
  rfl

theorem has45 {w : World} {vb : Nat} {fa : Option Addr} {fc : Nat} {F : List Int} {m : Option Nat} {L : List Int} (h : Held w vb fa fc F m L) (hs : incB F = true) (hl : F.length ≤ 140737488355328) (x : Int) (hx : (Lit.int .u64 x).wf = true) :
    Calls Try.prog 45 #[.pointer (some ⟨vb, 0, none⟩), .int .u64 x] w fun e w' => e = .returned (.bool (inB L x)) ∧ Below w.heap.size w w' := by
  cases m with
  | none => exact has45_none h hs hl x
  | some mb => exact has45_some h x hx

end Go.Proofs.Qxb6603397a

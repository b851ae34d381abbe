/-
  kv's level: ZZNewLevel, its readers, (*level).set on a first level.
-/
import Derived.Test.Qxb6603799aCloneE
import Derived.StillTactics
import Derived.StillTail
import Derived.StringKeys
namespace Go.Proofs.Qxb6603799a
open Go.RowKit Go.Maps

/-- How an item reads: as itself. -/
def heldElem (v : Value) : Option (DataW Value × List MemPlace) := some (.held v, [])

def itemV (v : Value) (x l : Int) : Value := .agg #[v, .int .u64 x, .int .u64 l]
def zeroI : Value := .agg #[.slice none 0 0, .int .u64 0, .int .u64 0]

theorem zero39 (w : World) : (zeroValue 39).run Try.prog w = .ok zeroI w := by kernel_rfl

theorem keyed9 : Keyed Try.prog 9 := string_keyed Try.underlying9

/-- A level in memory. -/
structure Lev (w : World) (lb mb : Nat) (kv : Value) (r : Int) (N : Nat) (D : DataW Value) : Prop where
  c0 : w.cell? ⟨lb, 0, none⟩ = some (.map (some mb))
  c1 : w.cell? ⟨lb, 1, none⟩ = some kv
  c2 : w.cell? ⟨lb, 2, none⟩ = some (.int .i64 r)
  f1 : w.frozen? ⟨lb, 1, none⟩ = false
  map : w.ownsMap Try.prog 9 heldElem mb N D

theorem Lev.lt {w : World} {lb mb : Nat} {kv : Value} {r : Int} {N : Nat} {D : DataW Value} (h : Lev w lb mb kv r N D) : lb < w.heap.size := World.block_lt_of_cell? w _ h.c0

theorem Lev.ne {w : World} {lb mb : Nat} {kv : Value} {r : Int} {N : Nat} {D : DataW Value} (h : Lev w lb mb kv r N D) : mb ≠ lb := by
  intro e
  subst e
  obtain ⟨es, clock, hb, _⟩ := h.map
  have := h.c0
  simp [World.cell?, hb] at this

theorem Lev.kept {w w' : World} {lb mb : Nat} {kv : Value} {r : Int} {N : Nat} {D : DataW Value} (h : Lev w lb mb kv r N D) (hg : w.grownBy w' none) : Lev w' lb mb kv r N D :=
  have hb := hg.block lb h.lt (by simp)
  ⟨(World.cell?_of_block (w := w) hb).trans h.c0, (World.cell?_of_block (w := w) hb).trans h.c1, (World.cell?_of_block (w := w) hb).trans h.c2, (World.frozen?_of_block (w := w) hb).trans h.f1, h.map.kept hg (by simp)⟩

theorem grown_of_below {w w' : World} (h : Below w.heap.size w w') : w.grownBy w' none := ⟨h.os, h.tape, h.output, h.size, fun k hk _ => h.block k hk⟩

theorem grown_none {w w' : World} (h : w.grownBy w' none) (row : Option Nat) : w.grownBy w' row := ⟨h.os, h.tape, h.output, h.size, fun k hk _ => h.block k hk (by simp)⟩

theorem Lev.turned {w w' : World} {lb mb : Nat} {kv : Value} {r : Int} {N N' : Nat} {D D' : DataW Value} (h : Lev w lb mb kv r N D) (hg : w.grownBy w' (some mb)) (hm : w'.ownsMap Try.prog 9 heldElem mb N' D') : Lev w' lb mb kv r N' D' :=
  have hb := hg.block lb h.lt (by simp; exact fun e => h.ne e.symm)
  ⟨(World.cell?_of_block (w := w) hb).trans h.c0, (World.cell?_of_block (w := w) hb).trans h.c1, (World.cell?_of_block (w := w) hb).trans h.c2, (World.frozen?_of_block (w := w) hb).trans h.f1, hm⟩

set_option maxHeartbeats 400000 in
theorem new17 {w : World} {mb N : Nat} {D : DataW Value} (h : w.ownsMap Try.prog 9 heldElem mb N D) (ka : Option Addr) (kn kc : Nat) (r : Int) :
    Calls Try.prog 17 #[.map (some mb), .slice ka kn kc, .int .i64 r] w fun e w' => ∃ lb, e = .returned (.pointer (some ⟨lb, 0, none⟩)) ∧ w.heap.size ≤ lb ∧ Lev w' lb mb (.slice ka kn kc) r N D ∧ Below w.heap.size w w' := by
  have H := hide h
  clear h
  go_enter Try.func17, Try.ntmps17
  go_wp2_with fail
  go_ret
  refine ⟨w.heap.size, rfl, Nat.le_refl _, ⟨by simp, by simp, by simp, by simp, (unhide H).alloc _⟩, (Below.refl _ _).alloc (Nat.le_refl _) _⟩

section
variable {w : World} {lb mb : Nat} {ka : Option Addr} {kn kc : Nat} {r : Int} {N : Nat} {D : DataW Value}

theorem items19 (h : Lev w lb mb (.slice ka kn kc) r N D) : Calls Try.prog 19 #[.pointer (some ⟨lb, 0, none⟩)] w fun e w' => e = .returned (.map (some mb)) ∧ w' = w := by
  have c0 := h.c0
  clear h
  go_enter Try.func19, Try.ntmps19
  go_wp2_with fail
  go_ret
  exact ⟨rfl, rfl⟩

theorem keys20 (h : Lev w lb mb (.slice ka kn kc) r N D) : Calls Try.prog 20 #[.pointer (some ⟨lb, 0, none⟩)] w fun e w' => e = .returned (.slice ka kn kc) ∧ w' = w := by
  have c1 := h.c1
  clear h
  go_enter Try.func20, Try.ntmps20
  go_wp2_with fail
  go_ret
  exact ⟨rfl, rfl⟩

theorem readers21 (h : Lev w lb mb (.slice ka kn kc) r N D) : Calls Try.prog 21 #[.pointer (some ⟨lb, 0, none⟩)] w fun e w' => e = .returned (.int .i64 r) ∧ w' = w := by
  have c2 := h.c2
  clear h
  go_enter Try.func21, Try.ntmps21
  go_wp2_with fail
  go_ret
  exact ⟨rfl, rfl⟩
end

/-- What a set on a first level makes of the map. -/
def setF (D : DataW Value) (k : List UInt8) (v : Value) (x l : Int) : DataW Value := if x = 0 then D.del (.string k) else D.put (.string k) (.held (itemV v x l))

theorem alloc_grown (w : World) (o : Obj) : w.grownBy (w.alloc o) none := grown_of_below ((Below.refl _ _).alloc (Nat.le_refl _) _)

set_option maxHeartbeats 1000000 in
theorem set26_del {w : World} {lb mb : Nat} {kv : Value} {r : Int} {N : Nat} {D : DataW Value} (h : Lev w lb mb kv r N D) (k : ByteArray) (hk : k.size ≤ maxLen) (va : Option Addr) (vn vc : Nat) (l : Int) :
    Calls Try.prog 26 #[.pointer (some ⟨lb, 0, none⟩), .string k, .agg #[.slice va vn vc, .int .u64 0, .int .u64 l], .bool true] w fun e w' => e = .returned (.tuple #[]) ∧ Lev w' lb mb kv r N (D.del (.string k.data.toList)) ∧ w.grownBy w' (some mb) := by
  have H1 := h.kept (alloc_grown w (.cells #[.slice va vn vc, .int .u64 0, .int .u64 l] 39))
  have HH := hide (And.intro h H1)
  have c0 := H1.c0
  have hm := H1.map
  have hkey : keyOf Try.prog 9 (.string k) = some (.string k.data.toList) := WideMaps.keyOf_string_mk Try.underlying9 hk
  clear h H1
  go_enter Try.func26, Try.ntmps26
  go_wp2_with (at_delete; refine wpList_delete_own _ rfl _ _ 35 9 rfl 39 keyed9 Try.underlying35 heldElem mb N D rfl hm _ _ rfl hkey ?_; intro w1 hown1 hturn1)
  go_end0
  refine ⟨rfl, (unhide HH).2.turned hturn1.grown hown1, ?_⟩
  exact (grown_none (alloc_grown w _) _).trans hturn1.grown

set_option maxHeartbeats 1000000 in
theorem set26_put {w : World} {lb mb : Nat} {kv : Value} {r : Int} {N : Nat} {D : DataW Value} (h : Lev w lb mb kv r N D) (hN : N ≤ 1000000) (k : ByteArray) (hk : k.size ≤ maxLen) (va : Option Addr) (vn vc : Nat) (x l : Int) (hx : x ≠ 0) :
    Calls Try.prog 26 #[.pointer (some ⟨lb, 0, none⟩), .string k, .agg #[.slice va vn vc, .int .u64 x, .int .u64 l], .bool true] w fun e w' => e = .returned (.tuple #[]) ∧ Lev w' lb mb kv r (N + 1) (D.put (.string k.data.toList) (.held (itemV (.slice va vn vc) x l))) ∧ w.grownBy w' (some mb) := by
  have H1 := h.kept (alloc_grown w (.cells #[.slice va vn vc, .int .u64 x, .int .u64 l] 39))
  have HH := hide (And.intro h H1)
  have c0 := H1.c0
  have hkey : keyOf Try.prog 9 (.string k) = some (.string k.data.toList) := WideMaps.keyOf_string_mk Try.underlying9 hk
  obtain ⟨w6, hrun, hown6, hgrow6⟩ := H1.map.drew.update (val := itemV (.slice va vn vc) x l) keyed9 Try.underlying35 (by unfold maxLen; omega) hkey rfl
  have hfin := hide (And.intro hown6 hgrow6)
  have hx0 : (x == 0) = false := by simpa using hx
  have hlb := H1.lt
  clear h H1 hown6 hgrow6 hkey
  unfold itemV at hrun
  go_enter Try.func26, Try.ntmps26
  go_wp2_with fail
  refine wp_region_still_tail 6 (by kernel_rfl) (by kernel_rfl) ?_
  simp only [List.take_succ_cons, List.take_zero, List.drop_succ_cons, List.drop_zero]
  change wpStill _ _ (w.alloc (.cells #[.slice va vn vc, .int .u64 x, .int .u64 l] 39)).drew (fun a' => wpList _ _ _ _ a' (w.alloc (.cells #[.slice va vn vc, .int .u64 x, .int .u64 l] 39)).drew) _ _
  still_step
  still_step
  still_step
  still_step
  still_step
  still_step
  refine wpStill_nil ?_
  go_wp2
  go_end0
  refine ⟨rfl, (unhide HH).2.turned ⟨(unhide hfin).2.os, (unhide hfin).2.tape, (unhide hfin).2.output, (unhide hfin).2.size, (unhide hfin).2.block⟩ (unhide hfin).1, ?_⟩
  exact (grown_none (alloc_grown w _) _).trans ⟨(unhide hfin).2.os, (unhide hfin).2.tape, (unhide hfin).2.output, (unhide hfin).2.size, (unhide hfin).2.block⟩

end Go.Proofs.Qxb6603799a

/-
  (*level).set and ZZSet on a later level.
-/
import Derived.Test.Qxb6603799aSet
import Derived.ArgAppend
import Derived.Deep.AppendLies
import Derived.Deep.RegionHeld3
namespace Go.Proofs.Qxb6603799a
open Go.RowKit Go.Maps

theorem lookI {w : World} {mb N : Nat} {D : DataW Value} (h : w.ownsMap Try.prog 9 heldElem mb N D) {k : ByteArray} (hk : k.size ≤ maxLen) {u : Value} (hu : D.atKey (.string k.data.toList) (.held zeroI) = .held u) :
    (Instr.lookup 35 (.map (some mb)) (.string k) true).run Try.prog w = .ok (.tuple #[u, .bool (has D (.string k.data.toList))]) w := by
  obtain ⟨v, ps, hr, hv⟩ := h.look_ok keyed9 Try.underlying35 (zero39 w) (zd := .held zeroI) (zp := []) rfl (WideMaps.keyOf_string_mk Try.underlying9 hk)
  rw [hu] at hv
  have : v = u := by
    unfold heldElem at hv
    simp at hv
    exact hv.1
  rw [this] at hr
  exact hr

theorem info9 : (Try.prog.info? 9).map (fun i => (i.zero, i.size, i.bytes)) = some (some (.string ⟨#[]⟩), 1, 16) := by kernel_rfl

/-- To stop a walk at an operation. -/
def Halted (p : Prop) : Prop := p
theorem Halted.out {p : Prop} (h : Halted p) : p := h
theorem Halted.mk {p : Prop} (h : p) : Halted p := h

/-- The key list in memory, without spare. -/
structure Keys (w : World) (ka : Option Addr) (kn kc : Nat) (xs : List Value) : Prop where
  len : xs.length = kn
  shape : (ka = none ∧ kn = 0 ∧ kc = 0) ∨ ∃ g, ka = some ⟨g, 0, none⟩ ∧ kc = kn ∧ g < w.heap.size ∧ ∀ j u, xs[j]? = some u → w.cell? ⟨g, j, none⟩ = some u
  str : ∀ u ∈ xs, ∃ s : ByteArray, u = .string s

theorem Keys.step {w w' : World} {ka : Option Addr} {kn kc : Nat} {xs : List Value} (h : Keys w ka kn kc xs) (hb : Below w.heap.size w w') : Keys w' ka kn kc xs := by
  refine ⟨h.len, ?_, h.str⟩
  rcases h.shape with h0 | ⟨g, h1, h2, h3, h4⟩
  · exact .inl h0
  · exact .inr ⟨g, h1, h2, Nat.lt_of_lt_of_le h3 hb.size, fun j u hj => (hb.cell (by exact h3)).trans (h4 j u hj)⟩

/-- w' is w but for new blocks and for the blocks a and b. -/
structure But2 (a b : Nat) (w w' : World) : Prop where
  os : w'.os = w.os
  tape : w'.tape = w.tape
  output : w'.output = w.output
  size : w.heap.size ≤ w'.heap.size
  block : ∀ k, k < w.heap.size → k ≠ a → k ≠ b → w'.heap[k]? = w.heap[k]?

theorem But2.of_grown {a b : Nat} {w w' : World} (h : w.grownBy w' (some b)) : But2 a b w w' := ⟨h.os, h.tape, h.output, h.size, fun k hk _ hb => h.block k hk (by simpa using hb)⟩
theorem But2.of_none {a b : Nat} {w w' : World} (h : w.grownBy w' none) : But2 a b w w' := ⟨h.os, h.tape, h.output, h.size, fun k hk _ _ => h.block k hk (by simp)⟩
theorem But2.trans {a b : Nat} {u v w : World} (h : But2 a b u v) (k : But2 a b v w) : But2 a b u w :=
  ⟨k.os.trans h.os, k.tape.trans h.tape, k.output.trans h.output, Nat.le_trans h.size k.size, fun i hi h1 h2 => (k.block i (Nat.lt_of_lt_of_le hi h.size) h1 h2).trans (h.block i hi h1 h2)⟩
theorem But2.below {a b B : Nat} {w w' : World} (h : But2 a b w w') (hB : B ≤ w.heap.size) (ha : B ≤ a) (hb : B ≤ b) : Below B w w' :=
  ⟨h.os, h.tape, h.output, h.size, fun k hk => h.block k (by omega) (by omega) (by omega)⟩

theorem Lev.drew {w : World} {lb mb : Nat} {kv : Value} {r : Int} {N : Nat} {D : DataW Value} (h : Lev w lb mb kv r N D) : Lev w.drew lb mb kv r N D :=
  ⟨h.c0, h.c1, h.c2, h.f1, h.map⟩

set_option maxHeartbeats 2000000 in
theorem set26_has {w : World} {lb mb : Nat} {kv : Value} {r : Int} {N : Nat} {D : DataW Value} (h : Lev w lb mb kv r N D) (hN : N ≤ 1000000) (k : ByteArray) (hk : k.size ≤ maxLen) (va : Option Addr) (vn vc : Nat) (x l : Int)
    {ua : Option Addr} {un uc : Nat} {ux ul : Int} (hh : has D (.string k.data.toList) = true) (hu : D.atKey (.string k.data.toList) (.held zeroI) = .held (itemV (.slice ua un uc) ux ul)) :
    Calls Try.prog 26 #[.pointer (some ⟨lb, 0, none⟩), .string k, .agg #[.slice va vn vc, .int .u64 x, .int .u64 l], .bool false] w fun e w' => e = .returned (.tuple #[]) ∧ Lev w' lb mb kv r (N + 1) (D.put (.string k.data.toList) (.held (itemV (.slice va vn vc) x l))) ∧ But2 lb mb w w' := by
  have g1 := alloc_grown w (.cells #[.slice va vn vc, .int .u64 x, .int .u64 l] 39)
  have H1 := h.kept g1
  have g2 := alloc_grown (w.alloc (.cells #[.slice va vn vc, .int .u64 x, .int .u64 l] 39)) (.cells #[.slice ua un uc, .int .u64 ux, .int .u64 ul] 39)
  have H2 := H1.kept g2
  have c0 := H1.c0
  have d0 := H2.c0
  have hlook := lookI H1.map hk hu
  rw [hh] at hlook
  unfold itemV at hlook
  have hkey : keyOf Try.prog 9 (.string k) = some (.string k.data.toList) := WideMaps.keyOf_string_mk Try.underlying9 hk
  obtain ⟨w6, hrun, hown6, hgrow6⟩ := H2.map.drew.update (val := itemV (.slice va vn vc) x l) keyed9 Try.underlying35 (by unfold maxLen; omega) hkey rfl
  have hfin := hide (And.intro hown6 (And.intro hgrow6 (And.intro H2 (And.intro g1 g2))))
  obtain ⟨k0, k1, k2⟩ := box39_cells w (.slice va vn vc) (.int .u64 x) (.int .u64 l)
  have hws : w.heap.size < (w.alloc (.cells #[.slice va vn vc, .int .u64 x, .int .u64 l] 39)).heap.size := by simp
  have m0 := (g2.cell_far ⟨w.heap.size, 0, none⟩ hws (by simp)).trans k0
  have m1 := (g2.cell_far ⟨w.heap.size, 1, none⟩ hws (by simp)).trans k1
  have m2 := (g2.cell_far ⟨w.heap.size, 2, none⟩ hws (by simp)).trans k2
  have hl1 := H1.lt
  have hl2 := H2.lt
  clear h H1 H2 hown6 hgrow6 hkey hu hh g1 g2 k0 k1 k2
  unfold itemV at hrun
  go_enter Try.func26, Try.ntmps26
  go_wp2_with fail
  refine wp_region_still_tail 6 (by kernel_rfl) (by kernel_rfl) ?_
  simp only [List.take_succ_cons, List.take_zero, List.drop_succ_cons, List.drop_zero]
  change wpStill _ _ ((w.alloc (.cells #[.slice va vn vc, .int .u64 x, .int .u64 l] 39)).alloc (.cells #[.slice ua un uc, .int .u64 ux, .int .u64 ul] 39)).drew (fun a' => wpList _ _ _ _ a' ((w.alloc (.cells #[.slice va vn vc, .int .u64 x, .int .u64 l] 39)).alloc (.cells #[.slice ua un uc, .int .u64 ux, .int .u64 ul] 39)).drew) _ _
  still_step
  still_step
  still_step
  still_step
  still_step
  still_step
  refine wpStill_nil ?_
  go_wp2
  go_end0
  obtain ⟨o6, gr6, L2, g1, g2⟩ := unhide hfin
  have gr : ((w.alloc (.cells #[.slice va vn vc, .int .u64 x, .int .u64 l] 39)).alloc (.cells #[.slice ua un uc, .int .u64 ux, .int .u64 ul] 39)).grownBy w6 (some mb) := ⟨gr6.os, gr6.tape, gr6.output, gr6.size, gr6.block⟩
  exact ⟨rfl, L2.turned gr o6, ((But2.of_none g1).trans (But2.of_none g2)).trans (But2.of_grown gr)⟩

/-- What a set of a new key on a later level leaves. -/
def Added (w w' : World) (lb mb : Nat) (kn : Nat) (xs : List Value) (r : Int) (N : Nat) (D : DataW Value) (k : ByteArray) : Prop :=
  ∃ g cap, Lev w' lb mb (.slice (some ⟨g, 0, none⟩) (kn + 1) cap) r N D ∧ (∀ j u, (xs ++ [.string k])[j]? = some u → w'.cell? ⟨g, j, none⟩ = some u) ∧ w.heap.size ≤ g ∧ g < w'.heap.size

theorem Keys.holds {w w' : World} {ka : Option Addr} {kn kc : Nat} {xs : List Value} (h : Keys w ka kn kc xs) (hg : w.grownBy w' none) : ∀ b, ka = some b → ∀ j u, xs[j]? = some u → w'.cell? (b.add j) = some u := by
  intro b hb j u hj
  rcases h.shape with ⟨h0, _⟩ | ⟨g, h1, h2, h3, h4⟩
  · rw [h0] at hb; cases hb
  · rw [h1] at hb
    injection hb with hb
    subst hb
    rw [Go.WideShapes.add_plain, Nat.zero_add]
    exact (hg.cell_far ⟨g, j, none⟩ h3 (by simp)).trans (h4 j u hj)

theorem Keys.nil {w : World} {ka : Option Addr} {kn kc : Nat} {xs : List Value} (h : Keys w ka kn kc xs) : ka = none → kn = 0 ∧ kc = 0 := by
  intro e
  rcases h.shape with ⟨_, h0⟩ | ⟨g, h1, _⟩
  · exact h0
  · rw [e] at h1; cases h1

theorem Keys.full {w : World} {ka : Option Addr} {kn kc : Nat} {xs : List Value} (h : Keys w ka kn kc xs) : kc = kn := by
  rcases h.shape with ⟨_, h0, h1⟩ | ⟨g, _, h1, _⟩ <;> omega

theorem Lev.stored {w : World} {lb mb : Nat} {kv : Value} {r : Int} {N : Nat} {D : DataW Value} (h : Lev w lb mb kv r N D) (kv' : Value) : Lev (w.setCell ⟨lb, 1, none⟩ kv') lb mb kv' r N D := by
  refine ⟨?_, ?_, ?_, ?_, h.map.setCell h.ne _⟩
  · exact (World.cell?_setCell_other _ _ _ _ (by simp)).trans h.c0
  · exact World.cell?_setCell_same _ _ _ h.c1
  · exact (World.cell?_setCell_other _ _ _ _ (by simp)).trans h.c2
  · rw [World.frozen?_setCell]; exact h.f1

theorem setCell_but (w : World) (lb mb o : Nat) (v : Value) : But2 lb mb w (w.setCell ⟨lb, o, none⟩ v) :=
  ⟨rfl, rfl, rfl, by simp [World.setCell], fun k _ h1 _ => Below.heap_setCell w ⟨lb, o, none⟩ v k h1⟩

theorem drew_but (w : World) (a b : Nat) : But2 a b w w.drew := ⟨rfl, rfl, rfl, Nat.le_refl _, fun _ _ _ _ => rfl⟩

set_option maxHeartbeats 2000000 in
theorem set26_new {w : World} {lb mb : Nat} {ka : Option Addr} {kn kc : Nat} {xs : List Value} {r : Int} {N : Nat} {D : DataW Value} (h : Lev w lb mb (.slice ka kn kc) r N D) (hN : N ≤ 1000000) (hK : Keys w ka kn kc xs) (hkn : kn ≤ 1000000) (k : ByteArray) (hk : k.size ≤ maxLen) (va : Option Addr) (vn vc : Nat) (x l : Int)
    (hh : has D (.string k.data.toList) = false) :
    Calls Try.prog 26 #[.pointer (some ⟨lb, 0, none⟩), .string k, .agg #[.slice va vn vc, .int .u64 x, .int .u64 l], .bool false] w fun e w' => e = .returned (.tuple #[]) ∧ Added w w' lb mb kn xs r (N + 1) (D.put (.string k.data.toList) (.held (itemV (.slice va vn vc) x l))) k ∧ But2 lb mb w w' := by
  obtain ⟨i0, hi, hz0, hz1, hz2⟩ := info_parts info9
  have g1 := alloc_grown w (.cells #[.slice va vn vc, .int .u64 x, .int .u64 l] 39)
  have H1 := h.kept g1
  obtain ⟨k0, k1, k2⟩ := box39_cells w (.slice va vn vc) (.int .u64 x) (.int .u64 l)
  have hws : w.heap.size < (w.alloc (.cells #[.slice va vn vc, .int .u64 x, .int .u64 l] 39)).heap.size := by simp
  have c0 := H1.c0
  have hlook := lookI H1.map hk (u := zeroI) (atKey_of_not_has hh _)
  rw [hh] at hlook
  unfold zeroI at hlook
  have g2 := alloc_grown (w.alloc (.cells #[.slice va vn vc, .int .u64 x, .int .u64 l] 39)) (.cells #[.slice none 0 0, .int .u64 0, .int .u64 0] 39)
  have H2 := H1.kept g2
  have d1 := H2.c1
  have g3 := alloc_grown ((w.alloc (.cells #[.slice va vn vc, .int .u64 x, .int .u64 l] 39)).alloc (.cells #[.slice none 0 0, .int .u64 0, .int .u64 0] 39)) (.cells #[.string k] 9)
  have H3 := H2.kept g3
  have g23 := g2.trans g3
  have g13 := g1.trans g23
  have m0 := (g23.cell_far ⟨w.heap.size, 0, none⟩ hws (by simp)).trans k0
  have m1 := (g23.cell_far ⟨w.heap.size, 1, none⟩ hws (by simp)).trans k1
  have m2 := (g23.cell_far ⟨w.heap.size, 2, none⟩ hws (by simp)).trans k2
  have hholds := hK.holds g13
  have hfull := hide hK.full
  have hnil := hide hK.nil
  have hlen : xs.length = kn * 1 := by rw [hK.len]; omega
  have hl2 := H2.lt
  have hl3 := H3.lt
  have e1 := H3.c1
  have f1 := H3.f1
  have hlbw := h.lt
  have hmbw := h.map.lt
  have HH := hide (And.intro H3 (And.intro g13 hK))
  have hws3 : w.heap.size < (((w.alloc (.cells #[.slice va vn vc, .int .u64 x, .int .u64 l] 39)).alloc (.cells #[.slice none 0 0, .int .u64 0, .int .u64 0] 39)).alloc (.cells #[.string k] 9)).heap.size := by simp; omega
  have HKk := hide (WideMaps.keyOf_string_mk (P := Try.prog) Try.underlying9 hk)
  have hone : ∀ j u, [Value.string k][j]? = some u → (((w.alloc (.cells #[.slice va vn vc, .int .u64 x, .int .u64 l] 39)).alloc (.cells #[.slice none 0 0, .int .u64 0, .int .u64 0] 39)).alloc (.cells #[.string k] 9)).cell? ((⟨w.heap.size + 1 + 1, 0, none⟩ : Addr).add j) = some u := by
    have e : ((w.alloc (.cells #[.slice va vn vc, .int .u64 x, .int .u64 l] 39)).alloc (.cells #[.slice none 0 0, .int .u64 0, .int .u64 0] 39)).heap.size = w.heap.size + 1 + 1 := by simp
    have := cell_one_new ((w.alloc (.cells #[.slice va vn vc, .int .u64 x, .int .u64 l] 39)).alloc (.cells #[.slice none 0 0, .int .u64 0, .int .u64 0] 39)) (.string k) 9
    rw [e] at this
    exact this
  clear h H1 H2 H3 g1 g2 g3 hh k0 k1 k2 g23 g13 hK hk
  go_enter Try.func26, Try.ntmps26
  go_wp2_with (at_builtin; refine Halted.out ?_)
  refine Halted.mk ?_
  refine wpList_append_grows _ rfl _ _ 29 rfl 9 i0 (.string ⟨#[]⟩) 1 16 Try.underlying29 hi hz0 hz1 hz2 rfl (by decide) ka kn kc xs rfl (unhide hnil) hlen hholds ⟨w.heap.size + 1 + 1, 0, none⟩ 1 1 [.string k] rfl rfl hone (by simp [Value.oneCell']) (by have := unhide hfull; omega) (by unfold maxLen; omega) (by omega) ?_
  intro v' w4 hown4 hgrow4
  obtain ⟨g, cap, cur, hv, hg⟩ := hown4.2.resolve_left (fun h => by omega)
  subst hv
  have e4 := (hgrow4.cell_far ⟨lb, 1, none⟩ hl3 (by simp)).trans e1
  have f4 := (hgrow4.frozen_far ⟨lb, 1, none⟩ hl3 (by simp)).trans f1
  have m40 := (hgrow4.cell_far ⟨w.heap.size, 0, none⟩ hws3 (by simp)).trans m0
  have m41 := (hgrow4.cell_far ⟨w.heap.size, 1, none⟩ hws3 (by simp)).trans m1
  have m42 := (hgrow4.cell_far ⟨w.heap.size, 2, none⟩ hws3 (by simp)).trans m2
  clear m0 m1 m2 e1 f1 hlook c0 d1
  go_wp2_with fail
  have H4 := (unhide HH).1.kept hgrow4
  have H5 := H4.stored (.slice (some ⟨g, 0, none⟩) (kn + 1) cap)
  have hne : lb ≠ w.heap.size := by omega
  have m50 := (World.cell?_setCell_far w4 ⟨lb, 1, none⟩ ⟨w.heap.size, 0, none⟩ (.slice (some ⟨g, 0, none⟩) (kn + 1) cap) hne).trans m40
  have m51 := (World.cell?_setCell_far w4 ⟨lb, 1, none⟩ ⟨w.heap.size, 1, none⟩ (.slice (some ⟨g, 0, none⟩) (kn + 1) cap) hne).trans m41
  have m52 := (World.cell?_setCell_far w4 ⟨lb, 1, none⟩ ⟨w.heap.size, 2, none⟩ (.slice (some ⟨g, 0, none⟩) (kn + 1) cap) hne).trans m42
  have b35 : But2 lb mb (((w.alloc (.cells #[.slice va vn vc, .int .u64 x, .int .u64 l] 39)).alloc (.cells #[.slice none 0 0, .int .u64 0, .int .u64 0] 39)).alloc (.cells #[.string k] 9)) (w4.setCell ⟨lb, 1, none⟩ (.slice (some ⟨g, 0, none⟩) (kn + 1) cap)) := (But2.of_none hgrow4).trans (setCell_but _ _ _ _ _)
  have b05 : But2 lb mb w (w4.setCell ⟨lb, 1, none⟩ (.slice (some ⟨g, 0, none⟩) (kn + 1) cap)) := (But2.of_none (unhide HH).2.1).trans b35
  have hgge : w.heap.size < g := by have := hg.1; omega
  have row5 : ∀ j u, (xs ++ [Value.string k])[j]? = some u → (w4.setCell ⟨lb, 1, none⟩ (.slice (some ⟨g, 0, none⟩) (kn + 1) cap)).cell? ⟨g, j, none⟩ = some u := by
    intro j u hj
    have hjl : j < (xs ++ [Value.string k]).length := (List.getElem?_eq_some_iff.1 hj).1
    rw [World.cell?_setCell_far w4 ⟨lb, 1, none⟩ ⟨g, j, none⟩ _ (by show lb ≠ g; omega), hown4.cellAt j (by simp at hjl; omega)]
    exact hj
  have hg5 : g < (w4.setCell ⟨lb, 1, none⟩ (.slice (some ⟨g, 0, none⟩) (kn + 1) cap)).heap.size := by
    rw [size_setCell]
    exact (Array.getElem?_eq_some_iff.1 hg.2.1).1
  have HR := hide (And.intro H5 (And.intro b05 (And.intro row5 hg5)))
  have n0 := H5.c0
  have hlb5 := H5.lt
  obtain ⟨w6, hrun, hown6, hgrow6⟩ := H5.map.drew.update (val := itemV (.slice va vn vc) x l) keyed9 Try.underlying35 (by unfold maxLen; omega) (unhide HKk) rfl
  have hfin := hide (And.intro hown6 hgrow6)
  unfold itemV at hrun
  have hw5 : w.heap.size < (w4.setCell ⟨lb, 1, none⟩ (.slice (some ⟨g, 0, none⟩) (kn + 1) cap)).heap.size := Nat.lt_of_lt_of_le hgge (Nat.le_of_lt hg5)
  clear H4 H5 m40 m41 m42 b35 b05 row5 hg5 hown6 hgrow6 hown4 hgrow4 e4 f4 hg hone hholds
  generalize w4.setCell ⟨lb, 1, none⟩ (.slice (some ⟨g, 0, none⟩) (kn + 1) cap) = w5 at *
  refine wp_region_still_tail 6 (by kernel_rfl) (by kernel_rfl) ?_
  simp only [List.take_succ_cons, List.take_zero, List.drop_succ_cons, List.drop_zero]
  change wpStill _ _ w5.drew (fun a' => wpList _ _ _ _ a' w5.drew) _ _
  still_step
  still_step
  still_step
  still_step
  still_step
  still_step
  refine wpStill_nil ?_
  go_wp2
  go_end0
  obtain ⟨H5, b05, row5, hg5⟩ := unhide HR
  obtain ⟨o6, gr6⟩ := unhide hfin
  have gr : w5.grownBy w6 (some mb) := ⟨gr6.os, gr6.tape, gr6.output, gr6.size, gr6.block⟩
  refine ⟨rfl, ⟨g, cap, H5.turned gr o6, fun j u hj => ?_, by omega, Nat.lt_of_lt_of_le hg5 gr.size⟩, b05.trans (But2.of_grown gr)⟩
  exact (gr.cell_far ⟨g, j, none⟩ hg5 (by simp; omega)).trans (row5 j u hj)

section
variable {w : World} {lb mb : Nat} {r : Int} {N : Nat} {D : DataW Value}

set_option maxHeartbeats 1000000 in
theorem set18_has {kv : Value} (h : Lev w lb mb kv r N D) (hN : N ≤ 1000000) (k : ByteArray) (hk : k.size ≤ maxLen) (va : Option Addr) (vn vc : Nat) (x l : Int)
    {ua : Option Addr} {un uc : Nat} {ux ul : Int} (hh : has D (.string k.data.toList) = true) (hu : D.atKey (.string k.data.toList) (.held zeroI) = .held (itemV (.slice ua un uc) ux ul)) :
    Calls Try.prog 18 #[.pointer (some ⟨lb, 0, none⟩), .string k, .agg #[.slice va vn vc, .int .u64 x, .int .u64 l], .bool false] w fun e w' => e = .returned (.tuple #[]) ∧ Lev w' lb mb kv r (N + 1) (D.put (.string k.data.toList) (.held (itemV (.slice va vn vc) x l))) ∧ But2 lb mb w w' := by
  have g1 := alloc_grown w (.cells #[.slice va vn vc, .int .u64 x, .int .u64 l] 39)
  have HH := hide (And.intro (h.kept g1) g1)
  clear h g1
  go_enter Try.func18, Try.ntmps18
  go_wp2_with fail
  refine (set26_has (unhide HH).1 hN k hk va vn vc x l hh hu).mono ?_
  rintro e w1 ⟨rfl, H2, g2⟩
  have HF := hide (And.intro H2 g2)
  clear H2 g2
  go_wp2_with fail
  go_end0
  exact ⟨rfl, (unhide HF).1, (But2.of_none (unhide HH).2).trans (unhide HF).2⟩

set_option maxHeartbeats 1000000 in
theorem set18_new {ka : Option Addr} {kn kc : Nat} {xs : List Value} (h : Lev w lb mb (.slice ka kn kc) r N D) (hN : N ≤ 1000000) (hK : Keys w ka kn kc xs) (hkn : kn ≤ 1000000) (k : ByteArray) (hk : k.size ≤ maxLen) (va : Option Addr) (vn vc : Nat) (x l : Int)
    (hh : has D (.string k.data.toList) = false) :
    Calls Try.prog 18 #[.pointer (some ⟨lb, 0, none⟩), .string k, .agg #[.slice va vn vc, .int .u64 x, .int .u64 l], .bool false] w fun e w' => e = .returned (.tuple #[]) ∧ Added w w' lb mb kn xs r (N + 1) (D.put (.string k.data.toList) (.held (itemV (.slice va vn vc) x l))) k ∧ But2 lb mb w w' := by
  have g1 := alloc_grown w (.cells #[.slice va vn vc, .int .u64 x, .int .u64 l] 39)
  have HH := hide (And.intro (h.kept g1) (And.intro g1 (hK.step ((Below.refl _ _).alloc (Nat.le_refl _) (.cells #[.slice va vn vc, .int .u64 x, .int .u64 l] 39)))))
  clear h g1 hK
  go_enter Try.func18, Try.ntmps18
  go_wp2_with fail
  refine (set26_new (unhide HH).1 hN (unhide HH).2.2 hkn k hk va vn vc x l hh).mono ?_
  rintro e w1 ⟨rfl, H2, g2⟩
  have HF := hide (And.intro H2 g2)
  clear H2 g2
  go_wp2_with fail
  go_end0
  obtain ⟨g, cap, l1, l2, l3, l4⟩ := (unhide HF).1
  exact ⟨rfl, ⟨g, cap, l1, l2, Nat.le_trans (unhide HH).2.1.size l3, l4⟩, (But2.of_none (unhide HH).2.1).trans (unhide HF).2⟩
end

end Go.Proofs.Qxb6603799a

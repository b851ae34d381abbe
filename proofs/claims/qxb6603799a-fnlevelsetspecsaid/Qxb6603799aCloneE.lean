/-
  zzCloneEntries.
-/
import Derived.Test.Qxb6603799aClone
import Derived.Deep.RegionHeld3
namespace Go.Proofs.Qxb6603799a
open Go.RowKit

theorem info37 : (Try.prog.info? 37).map (fun i => (i.zero, i.size, i.bytes)) = some (some (.agg #[.string ⟨#[]⟩, .slice none 0 0, .int .u64 0, .int .u64 0]), 4, 56) := by kernel_rfl

theorem eqNil28 (w : World) (a : Option Addr) (l c : Nat) : (binOp .eql 28 (.slice a l c) (.slice none 0 0)).run Try.prog w = .ok (.bool a.isNone) w := Lib.run_eql_slice_nil w 28 37 a l c 0 0 Try.underlying28

/-- A clone as it must be. -/
def Fine (A : Nat) (w : World) (f : Ent) : Prop := Byt A w.heap.size w f.val ∧ vlen f.val ≤ 1048576 ∧ f.key.size ≤ 1048576 ∧ (Lit.int .u64 f.idx).wf = true ∧ (Lit.int .u64 f.lease).wf = true

theorem Fine.step {A : Nat} {w w' : World} {f : Ent} (h : Fine A w f) (hb : Below w.heap.size w w') : Fine A w' f := ⟨h.1.step hb, h.2⟩

theorem Fine.other {A : Nat} {w w' : World} {f : Ent} (h : Fine A w f) (hs : w.heap.size ≤ w'.heap.size) (hb : ∀ k, A ≤ k → k < w.heap.size → w'.heap[k]? = w.heap[k]?) : Fine A w' f := ⟨(h.1.other hb).mono (Nat.le_refl _) hs, h.2⟩

theorem Fine.low {A A' : Nat} {w : World} {f : Ent} (h : Fine A w f) (ha : A' ≤ A) : Fine A' w f := ⟨h.1.mono ha (Nat.le_refl _), h.2⟩

/-- The cells of the entries F among the cells xs. -/
def Laid (xs : List Value) (F : List Ent) : Prop := ∀ j f, F[j]? = some f → xs[j * 4]? = some (.string f.key) ∧ xs[j * 4 + 1]? = some f.val ∧ xs[j * 4 + 2]? = some (.int .u64 f.idx) ∧ xs[j * 4 + 3]? = some (.int .u64 f.lease)

def put4 (xs : List Value) (k : Nat) (f : Ent) : List Value := (((xs.set (k * 4) (.string f.key)).set (k * 4 + 1) f.val).set (k * 4 + 2) (.int .u64 f.idx)).set (k * 4 + 3) (.int .u64 f.lease)

theorem Laid.snoc {xs : List Value} {F : List Ent} (h : Laid xs F) (f : Ent) (hl : F.length * 4 + 3 < xs.length) : Laid (put4 xs F.length f) (F ++ [f]) := by
  intro j g hj
  by_cases hjk : j < F.length
  · rw [List.getElem?_append_left hjk] at hj
    obtain ⟨h0, h1, h2, h3⟩ := h j g hj
    unfold put4
    refine ⟨?_, ?_, ?_, ?_⟩ <;>
    · rw [List.getElem?_set_ne (by omega), List.getElem?_set_ne (by omega), List.getElem?_set_ne (by omega), List.getElem?_set_ne (by omega)]
      assumption
  · have hjl : j < (F ++ [f]).length := (List.getElem?_eq_some_iff.1 hj).1
    have hjk' : j = F.length := by simp at hjl; omega
    subst hjk'
    rw [List.getElem?_append_right (Nat.le_refl _), Nat.sub_self] at hj
    have : f = g := by simpa using hj
    subst this
    unfold put4
    refine ⟨?_, ?_, ?_, ?_⟩
    · rw [List.getElem?_set_ne (by omega), List.getElem?_set_ne (by omega), List.getElem?_set_ne (by omega), List.getElem?_set_self (by omega)]
    · rw [List.getElem?_set_ne (by omega), List.getElem?_set_ne (by omega), List.getElem?_set_self (by simp; omega)]
    · rw [List.getElem?_set_ne (by omega), List.getElem?_set_self (by simp; omega)]
    · rw [List.getElem?_set_self (by simp; omega)]

theorem size_setCell (w : World) (a : Addr) (u : Value) : (w.setCell a u).heap.size = w.heap.size := by simp

/-- One round's end. -/
theorem cloneE_round {w wr w2 : World} {n : Nat} {xs : List Value} {F : List Ent} {f : Ent} (h : wr.ownsRow w.heap.size 37 4 (.slice (some ⟨w.heap.size, 0, none⟩) n n) n xs ∧ Laid xs F ∧ (∀ f ∈ F, Fine (w.heap.size + 1) wr f) ∧ Below w.heap.size w wr)
    (hb : Below wr.heap.size wr w2) (hf : Fine (w.heap.size + 1) w2 f) (hl : F.length < n) :
    ∃ xs', ((((w2.setCell ⟨w.heap.size, F.length * 4, none⟩ (.string f.key)).setCell ⟨w.heap.size, F.length * 4 + 1, none⟩ f.val).setCell ⟨w.heap.size, F.length * 4 + 2, none⟩ (.int .u64 f.idx)).setCell ⟨w.heap.size, F.length * 4 + 3, none⟩ (.int .u64 f.lease)).ownsRow w.heap.size 37 4 (.slice (some ⟨w.heap.size, 0, none⟩) n n) n xs' ∧ Laid xs' (F ++ [f]) ∧
      (∀ g ∈ F ++ [f], Fine (w.heap.size + 1) ((((w2.setCell ⟨w.heap.size, F.length * 4, none⟩ (.string f.key)).setCell ⟨w.heap.size, F.length * 4 + 1, none⟩ f.val).setCell ⟨w.heap.size, F.length * 4 + 2, none⟩ (.int .u64 f.idx)).setCell ⟨w.heap.size, F.length * 4 + 3, none⟩ (.int .u64 f.lease)) g) ∧
      Below w.heap.size w ((((w2.setCell ⟨w.heap.size, F.length * 4, none⟩ (.string f.key)).setCell ⟨w.heap.size, F.length * 4 + 1, none⟩ f.val).setCell ⟨w.heap.size, F.length * 4 + 2, none⟩ (.int .u64 f.idx)).setCell ⟨w.heap.size, F.length * 4 + 3, none⟩ (.int .u64 f.lease)) := by
  obtain ⟨h1, h2, h3, h4⟩ := h
  have hg : wr.grownBy w2 none := ⟨hb.os, hb.tape, hb.output, hb.size, fun k hk _ => hb.block k hk⟩
  have o0 := h1.kept hg (.inr (by simp [Value.ownBlock]))
  have o1 := (o0.stored (F.length * 4) (.string f.key)).1
  have o2 := (o1.stored (F.length * 4 + 1) f.val).1
  have o3 := (o2.stored (F.length * 4 + 2) (.int .u64 f.idx)).1
  have o4 := (o3.stored (F.length * 4 + 3) (.int .u64 f.lease)).1
  have hxl : xs.length = n * 4 := h1.1
  refine ⟨_, o4, h2.snoc f (by omega), ?_, ?_⟩
  · have key : ∀ g, Fine (w.heap.size + 1) w2 g → Fine (w.heap.size + 1) ((((w2.setCell ⟨w.heap.size, F.length * 4, none⟩ (.string f.key)).setCell ⟨w.heap.size, F.length * 4 + 1, none⟩ f.val).setCell ⟨w.heap.size, F.length * 4 + 2, none⟩ (.int .u64 f.idx)).setCell ⟨w.heap.size, F.length * 4 + 3, none⟩ (.int .u64 f.lease)) g := by
      intro g hg'
      refine hg'.other (by simp) (fun k hk _ => ?_)
      rw [Below.heap_setCell _ _ _ _ (by show k ≠ w.heap.size; omega), Below.heap_setCell _ _ _ _ (by show k ≠ w.heap.size; omega), Below.heap_setCell _ _ _ _ (by show k ≠ w.heap.size; omega), Below.heap_setCell _ _ _ _ (by show k ≠ w.heap.size; omega)]
    intro g hg'
    rcases List.mem_append.1 hg' with hg' | hg'
    · exact key g ((h3 g hg').step hb)
    · have : g = f := by simpa using hg'
      subst this
      exact key g hf
  · have b2 : Below w.heap.size w w2 := h4.trans (hb.mono h4.size)
    exact (((b2.setCell (by exact Nat.le_refl _) _).setCell (by exact Nat.le_refl _) _).setCell (by exact Nat.le_refl _) _).setCell (by exact Nat.le_refl _) _

set_option maxHeartbeats 4000000 in
theorem cloneE13_some {w : World} {ad : Addr} {n c : Nat} {E : List Ent} (h : Ents w.heap.size w (some ad) n E) (hn : n ≤ 4096) (hs : Short E n) :
    Calls Try.prog 13 #[.slice (some ad) n c] w fun e w' => ∃ g F, e = .returned (.slice (some ⟨g, 0, none⟩) n n) ∧ w.heap.size ≤ g ∧ F.length = n ∧ (∀ f ∈ F, Fine w.heap.size w' f) ∧ Ents w'.heap.size w' (some ⟨g, 0, none⟩) n F ∧ Below w.heap.size w w' := by
  have qs := eqNil28
  have H := hide h
  have HS := hide hs
  clear h hs
  obtain ⟨i0, hi, hz0, hz1, hz2⟩ := info_parts info37
  go_enter Try.func13, Try.ntmps13
  go_wp2_with (at_make; refine wpList_make_full _ rfl _ _ 28 rfl w.heap.size 37 i0 (.agg #[.string ⟨#[]⟩, .slice none 0 0, .int .u64 0, .int .u64 0]) 4 Try.underlying28 hi hz0 hz1 .i64 .i64 _ _ n rfl rfl rfl rfl (by rw [hz2]; omega) (by unfold maxLen; omega) (Nat.le_refl _) ?_; intro w1 hown1 hgrow1)
  have hb1 : Below w.heap.size w w1 := (Below.refl _ _).grown hgrow1 (Nat.le_refl _) (fun k hk => by cases hk)
  go_loopw [4] (fun i wr => ∃ (xs : List Value) (F : List Ent), F.length ≤ n ∧ i = .int .i64 F.length ∧ Hid (wr.ownsRow w.heap.size 37 4 (.slice (some ⟨w.heap.size, 0, none⟩) n n) n xs ∧ Laid xs F ∧ (∀ f ∈ F, Fine (w.heap.size + 1) wr f) ∧ Below w.heap.size w wr)) (fun i _ => n - (intOf i).toNat)
  case atStart => exact ⟨_, [], Nat.zero_le _, rfl, hide ⟨hown1, (fun j f hj => by simp at hj), (fun f hf => by simp at hf), hb1⟩⟩
  case round =>
    obtain ⟨xs, F, hk, rfl, HR⟩ := hrel
    clear hown1 hgrow1 hb1
    by_cases hlt : F.length < n
    · have HBW := hide (unhide HR).2.2.2
      obtain ⟨b, off, e, hae, hbw, he, hat⟩ := (unhide H).get hlt
      injection hae with hae
      subst hae
      obtain ⟨c0, c1, c2, c3⟩ := hat.below (unhide HBW) hbw
      have hne : w.heap.size ≠ b := by omega
      have hne' : b ≠ w.heap.size := by omega
      have hxl : xs.length = n * 4 := (unhide HR).1.1
      obtain ⟨y0, d0⟩ : ∃ y, wr.cell? ⟨w.heap.size, F.length * 4, none⟩ = some y := ⟨_, ((unhide HR).1.cellAt (F.length * 4) (by omega)).trans (List.getElem?_eq_getElem (by omega))⟩
      obtain ⟨y1, d1⟩ : ∃ y, wr.cell? ⟨w.heap.size, F.length * 4 + 1, none⟩ = some y := ⟨_, ((unhide HR).1.cellAt (F.length * 4 + 1) (by omega)).trans (List.getElem?_eq_getElem (by omega))⟩
      obtain ⟨y2, d2⟩ : ∃ y, wr.cell? ⟨w.heap.size, F.length * 4 + 2, none⟩ = some y := ⟨_, ((unhide HR).1.cellAt (F.length * 4 + 2) (by omega)).trans (List.getElem?_eq_getElem (by omega))⟩
      obtain ⟨y3, d3⟩ : ∃ y, wr.cell? ⟨w.heap.size, F.length * 4 + 3, none⟩ = some y := ⟨_, ((unhide HR).1.cellAt (F.length * 4 + 3) (by omega)).trans (List.getElem?_eq_getElem (by omega))⟩
      have f0 := (unhide HR).1.frozenAt (F.length * 4)
      have f1 := (unhide HR).1.frozenAt (F.length * 4 + 1)
      have f2 := (unhide HR).1.frozenAt (F.length * 4 + 2)
      have f3 := (unhide HR).1.frozenAt (F.length * 4 + 3)
      have hbv := hide (((unhide H).val e (List.mem_of_getElem? he)).step (unhide HBW))
      have hsv := hide (unhide HS _ e hlt he)
      have HE := hide he
      clear he
      have hgw : w.heap.size < wr.heap.size := World.block_lt_of_cell? wr _ d0
      generalize hK : F.length = k at *
      go_wp2_with fail
      have hb : b < wr.heap.size := by have := (unhide HBW).size; omega
      go_region_held3 (fun w' => w'.cell? ⟨b, off + k * 4, none⟩ = some (.string e.key) ∧ w'.cell? ⟨b, off + k * 4 + 1, none⟩ = some e.val ∧ w'.cell? ⟨b, off + k * 4 + 2, none⟩ = some (.int .u64 e.idx) ∧ w'.cell? ⟨b, off + k * 4 + 3, none⟩ = some (.int .u64 e.lease))
        (first | go_keep | (refine ⟨(hb8.cell (by exact hb)).trans c0, (hb8.cell (by exact hb)).trans c1, (hb8.cell (by exact hb)).trans c2, (hb8.cell (by exact hb)).trans c3⟩))
        (first | (go_at_call 8; refine (clone8 (w := wr.drew) (unhide hbv) (unhide hsv).1).mono ?_; rintro e' w2 ⟨v', rfl, hv1, hv2, hb8⟩; have hv1 := hide hv1; obtain ⟨a8, n8, c8, hv8, r8⟩ := unhide hv1; clear r8; subst hv8; have x0 := (hb8.cell (p := ⟨w.heap.size, k * 4, none⟩) (by exact hgw)).trans d0; have x1 := (hb8.cell (p := ⟨w.heap.size, k * 4 + 1, none⟩) (by exact hgw)).trans d1; have x2 := (hb8.cell (p := ⟨w.heap.size, k * 4 + 2, none⟩) (by exact hgw)).trans d2; have x3 := (hb8.cell (p := ⟨w.heap.size, k * 4 + 3, none⟩) (by exact hgw)).trans d3; have z0 := (hb8.frozen (p := ⟨w.heap.size, k * 4, none⟩) (by exact hgw)).trans f0; have z1 := (hb8.frozen (p := ⟨w.heap.size, k * 4 + 1, none⟩) (by exact hgw)).trans f1; have z2 := (hb8.frozen (p := ⟨w.heap.size, k * 4 + 2, none⟩) (by exact hgw)).trans f2; have z3 := (hb8.frozen (p := ⟨w.heap.size, k * 4 + 3, none⟩) (by exact hgw)).trans f3))
      clear x0 x1 x2 x3 z0 z1 z2 z3 c0 c1 c2 c3 d0 d1 d2 d3 f0 f1 f2 f3
      have hb8' : Below wr.heap.size wr w2 := ⟨hb8.os, hb8.tape, hb8.output, hb8.size, hb8.block⟩
      have hfine : Fine (w.heap.size + 1) w2 ⟨e.key, .slice a8 n8 c8, e.idx, e.lease⟩ := ⟨(unhide hv1).mono (by show w.heap.size + 1 ≤ wr.heap.size; omega) (Nat.le_refl _), hv2, (unhide hsv).2, (unhide H).idx e (List.mem_of_getElem? (unhide HE)), (unhide H).lea e (List.mem_of_getElem? (unhide HE))⟩
      subst hK
      obtain ⟨xs', HX⟩ := cloneE_round (unhide HR) hb8' hfine hlt
      have HXh := hide HX
      clear HX hb8 hb8' hfine HR HBW hv1
      go_wp2_with fail
      go_roundw
      case rel => exact ⟨xs', F ++ [⟨e.key, .slice a8 n8 c8, e.idx, e.lease⟩], by simp; omega, by simp, HXh⟩
      case measure => simp [intOf]; omega
    · have hkn : F.length = n := by omega
      subst hkn
      go_wp2_with fail
      go_ret
      obtain ⟨h1, h2, h3, h4⟩ := unhide HR
      refine ⟨w.heap.size, F, rfl, Nat.le_refl _, rfl, fun f hf => (h3 f hf).low (by omega), ⟨rfl, ?_, fun f hf => ((h3 f hf).low (Nat.zero_le _)).1, fun f hf => ?_, fun f hf => (h3 f hf).2.2.2.1, fun f hf => (h3 f hf).2.2.2.2⟩, h4⟩
      · by_cases h0 : F.length = 0
        · exact .inl h0
        · refine .inr ⟨w.heap.size, 0, rfl, ?_, fun j f hj => ?_⟩
          · rcases h1.2 with ⟨hv, _⟩ | ⟨g', cap, cur, hv, hg, hh, _⟩
            · cases hv
            · simp only [Value.slice.injEq, Option.some.injEq, Addr.mk.injEq, and_true, true_and] at hv
              obtain ⟨rfl, _⟩ := hv
              exact (Array.getElem?_eq_some_iff.1 hh).1
          · have hjl : j < F.length := (List.getElem?_eq_some_iff.1 hj).1
            obtain ⟨a0, a1, a2, a3⟩ := h2 j f hj
            unfold At
            simp only [Nat.zero_add]
            exact ⟨(h1.cellAt _ (by omega)).trans a0, (h1.cellAt _ (by omega)).trans a1, (h1.cellAt _ (by omega)).trans a2, (h1.cellAt _ (by omega)).trans a3⟩
      · have := (h3 f hf).2.2.1
        unfold maxLen
        omega

set_option maxHeartbeats 400000 in
theorem cloneE13_nil (w : World) : Calls Try.prog 13 #[.slice none 0 0] w fun e w' => e = .returned (.slice none 0 0) ∧ w' = w := by
  have qs := eqNil28
  go_enter Try.func13, Try.ntmps13
  go_wp2
  go_ret
  exact ⟨rfl, rfl⟩

theorem cloneE13 {w : World} {a : Option Addr} {n c : Nat} {E : List Ent} (h : Ents w.heap.size w a n E) (hc : a = none → n = 0 ∧ c = 0) (hn : n ≤ 4096) (hs : Short E n) :
    Calls Try.prog 13 #[.slice a n c] w fun e w' => ∃ a' c' F, e = .returned (.slice a' n c') ∧ (∀ f ∈ F, Fine w.heap.size w' f) ∧ Ents w'.heap.size w' a' n F ∧ Below w.heap.size w w' := by
  cases a with
  | none =>
    obtain ⟨rfl, rfl⟩ := hc rfl
    refine (cloneE13_nil w).mono fun e w' ⟨he, hw⟩ => ?_
    subst he hw
    exact ⟨none, 0, [], rfl, by simp, ⟨rfl, .inl rfl, by simp, by simp, by simp, by simp⟩, Below.refl _ _⟩
  | some ad =>
    refine (cloneE13_some h hn hs).mono fun e w' ⟨g, F, he, _, _, h2, h3, h4⟩ => ?_
    exact ⟨_, _, F, he, h2, h3, h4⟩

end Go.Proofs.Qxb6603799a

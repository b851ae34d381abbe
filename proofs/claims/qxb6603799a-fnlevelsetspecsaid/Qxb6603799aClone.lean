/-
  zzCloneBytes.
-/
import Derived.Test.Qxb6603799aSame
namespace Go.Proofs.Qxb6603799a
open Go.RowKit

theorem info5 : (Try.prog.info? 5).map (fun i => (i.zero, i.size, i.bytes)) = some (some (.int .u8 0), 1, 1) := by kernel_rfl

/-- All are bytes. -/
def U8 (xs : List Value) : Prop := ∀ v ∈ xs, ∃ x, v = .int .u8 x

theorem U8.set {xs : List Value} (h : U8 xs) (k : Nat) (x : Int) : U8 (xs.set k (.int .u8 x)) := by
  intro v hv
  rcases List.mem_or_eq_of_mem_set hv with h1 | h1
  · exact h v h1
  · exact ⟨x, h1⟩

theorem U8.made (n : Nat) : U8 (madeCells (Value.int IntKind.u8 0).cells (n * 1)).toList := by
  intro v hv
  have : (madeCells (Value.int IntKind.u8 0).cells (n * 1)).toList = List.replicate n (.int .u8 0) := by
    apply List.ext_getElem?
    intro i
    simp [madeCells, Value.cells, List.getElem?_replicate]
    by_cases h : i < n <;> simp [h, Nat.mod_one]
  rw [this] at hv
  exact ⟨0, (List.mem_replicate.1 hv).2⟩

theorem Byt.of_owns {w : World} {B g n : Nat} {xs : List Value} (h : w.ownsRow B 5 1 (.slice (some ⟨g, 0, none⟩) n n) n xs) (hx : U8 xs) : Byt B w.heap.size w (.slice (some ⟨g, 0, none⟩) n n) := by
  rcases h.2 with ⟨hv, h0⟩ | ⟨g', cap, cur, hv, hg, hh, hnc, hcm, hcs, ht⟩
  · cases hv
  · simp only [Value.slice.injEq, Option.some.injEq, Addr.mk.injEq, and_true, true_and] at hv
    obtain ⟨rfl, rfl⟩ := hv
    refine ⟨_, n, n, rfl, Nat.le_refl _, hcm, (fun h => by cases h), .inr ⟨g, 0, rfl, hg, (Array.getElem?_eq_some_iff.1 hh).1, fun j hj => ?_⟩⟩
    have hl : j < xs.length := by have := h.1; omega
    obtain ⟨x, hxj⟩ := hx xs[j] (List.getElem_mem hl)
    refine ⟨x, ?_⟩
    rw [Nat.zero_add, h.cellAt j (by omega), List.getElem?_eq_getElem hl, hxj]

set_option maxHeartbeats 400000 in
theorem clone8_nil (w : World) : Calls Try.prog 8 #[.slice none 0 0] w fun e w' => e = .returned (.slice none 0 0) ∧ w' = w := by
  have qs := eqNil23
  go_enter Try.func8, Try.ntmps8
  go_wp2
  go_ret
  exact ⟨rfl, rfl⟩

set_option maxHeartbeats 1000000 in
theorem clone8_some (ad : Addr) (n c : Nat) (w : World) (hn : n ≤ 1048576) (hb : n = 0 ∨ ∃ b off, ad = ⟨b, off, none⟩ ∧ b < w.heap.size ∧ ∀ j, j < n → ∃ x, w.cell? ⟨b, off + j, none⟩ = some (.int .u8 x)) :
    Calls Try.prog 8 #[.slice (some ad) n c] w fun e w' => ∃ g, e = .returned (.slice (some ⟨g, 0, none⟩) n n) ∧ Byt w.heap.size w'.heap.size w' (.slice (some ⟨g, 0, none⟩) n n) ∧ Below w.heap.size w w' := by
  have qs := eqNil23
  obtain ⟨i0, hi, hz0, hz1, hz2⟩ := info_parts info5
  go_enter Try.func8, Try.ntmps8
  go_wp2_with (at_make; refine wpList_make_full _ rfl _ _ 23 rfl w.heap.size 5 i0 (.int .u8 0) 1 Try.underlying23 hi hz0 hz1 .i64 .i64 _ _ n rfl rfl rfl rfl (by rw [hz2]; omega) (by unfold maxLen; omega) (Nat.le_refl _) ?_; intro w1 hown1 hgrow1)
  have hb1 : Below w.heap.size w w1 := (Below.refl _ _).grown hgrow1 (Nat.le_refl _) (fun k hk => by cases hk)
  go_loopw [4] (fun i wr => ∃ (k : Nat) (xs : List Value), k ≤ n ∧ i = .int .i64 k ∧ wr.ownsRow w.heap.size 5 1 (.slice (some ⟨w.heap.size, 0, none⟩) n n) n xs ∧ Hid (U8 xs) ∧ Below w.heap.size w wr) (fun i _ => n - (intOf i).toNat)
  case atStart => exact ⟨0, _, Nat.zero_le _, rfl, hown1, hide (U8.made n), hb1⟩
  case round =>
    obtain ⟨k, xs, hk, rfl, hown, HU, hbel⟩ := hrel
    clear hown1 hgrow1 hb1
    by_cases hlt : k < n
    · rcases hb with h0 | ⟨b, off, rfl, hbs, hc⟩
      · omega
      obtain ⟨x, hx⟩ := hc k hlt
      have c1 := (hbel.cell (p := ⟨b, off + k, none⟩) hbs).trans hx
      have c2 : wr.cell? ⟨w.heap.size, k, none⟩ = xs[k]? := hown.cellAt k (by omega)
      have hml : k < xs.length := by have := hown.1; omega
      rw [List.getElem?_eq_getElem hml] at c2
      have f2 := hown.frozenAt k
      have hst := hown.stored k (.int .u8 x)
      have R1 := hide hst.1
      have R2 := hide (hbel.grown hst.2 hbel.size (fun j hj => by cases hj; exact Nat.le_refl _))
      clear hst hc hx
      generalize xs[k] = y at c2
      clear hown hbel
      go_wp2_with fail
      go_roundw
      case rel => exact ⟨k + 1, _, by omega, by go_num, unhide R1, hide ((unhide HU).set k x), unhide R2⟩
      case measure => simp [intOf]; omega
    · have hkn : k = n := by omega
      subst hkn
      have HR := hide (And.intro hown hbel)
      clear hown hbel hb
      go_wp2_with fail
      go_ret
      exact ⟨_, rfl, Byt.of_owns (unhide HR).1 (unhide HU), (unhide HR).2⟩

theorem clone8 {A : Nat} {w : World} {v : Value} (h : Byt A w.heap.size w v) (hs : vlen v ≤ 1048576) :
    Calls Try.prog 8 #[v] w fun e w' => ∃ v', e = .returned v' ∧ Byt w.heap.size w'.heap.size w' v' ∧ vlen v' ≤ 1048576 ∧ Below w.heap.size w w' := by
  obtain ⟨a, n, c, rfl, h1, h2, h3, h4⟩ := h
  have hn : n ≤ 1048576 := hs
  cases a with
  | none =>
    have hc := h3 rfl
    subst hc
    have hn0 : n = 0 := by omega
    subst hn0
    refine (clone8_nil w).mono fun e w' ⟨he, hw⟩ => ?_
    subst he hw
    exact ⟨_, rfl, ⟨none, 0, 0, rfl, Nat.le_refl _, by unfold maxLen; omega, fun _ => rfl, .inl rfl⟩, by decide, Below.refl _ _⟩
  | some ad =>
    refine (clone8_some ad n c w hn ?_).mono fun e w' ⟨g, he, hb, hbel⟩ => ?_
    · rcases h4 with h0 | ⟨b, off, e, _, r⟩
      · exact .inl h0
      · injection e with e
        exact .inr ⟨b, off, e, r⟩
    · exact ⟨_, he, hb, hn, hbel⟩

end Go.Proofs.Qxb6603799a

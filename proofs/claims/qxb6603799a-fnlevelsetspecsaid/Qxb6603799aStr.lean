/-
  A slice of strings: zzStringsBytes, zzCloneStrings; zzBytes_FnLevelSetSpec.
-/
import Derived.Test.Qxb6603799aLater
namespace Go.Proofs.Qxb6603799a
open Go.RowKit Go.Maps

/-- The slice (a, n) holds the strings L, in a block below B. -/
structure Strs (B : Nat) (w : World) (a : Option Addr) (n : Nat) (L : List ByteArray) : Prop where
  len : L.length = n
  cell : n = 0 ∨ ∃ b off, a = some ⟨b, off, none⟩ ∧ b < B ∧ ∀ j s, L[j]? = some s → w.cell? ⟨b, off + j, none⟩ = some (.string s)
  size : ∀ s ∈ L, s.size ≤ maxLen

theorem Strs.below {B : Nat} {w w' : World} {a : Option Addr} {n : Nat} {L : List ByteArray} (h : Strs B w a n L) (hb : Below B w w') : Strs B w' a n L := by
  refine ⟨h.len, ?_, h.size⟩
  rcases h.cell with h0 | ⟨b, off, rfl, hlt, hc⟩
  · exact .inl h0
  · exact .inr ⟨b, off, rfl, hlt, fun j s hj => (hb.cell (by exact hlt)).trans (hc j s hj)⟩

theorem Strs.mono {B B' : Nat} {w : World} {a : Option Addr} {n : Nat} {L : List ByteArray} (h : Strs B w a n L) (hb : B ≤ B') : Strs B' w a n L := by
  refine ⟨h.len, ?_, h.size⟩
  rcases h.cell with h0 | ⟨b, off, rfl, hlt, hc⟩
  · exact .inl h0
  · exact .inr ⟨b, off, rfl, by omega, hc⟩

theorem Strs.step {w w' : World} {a : Option Addr} {n : Nat} {L : List ByteArray} (h : Strs w.heap.size w a n L) (hb : Below w.heap.size w w') : Strs w'.heap.size w' a n L := (h.below hb).mono hb.size

theorem Strs.get {B : Nat} {w : World} {a : Option Addr} {n : Nat} {L : List ByteArray} (h : Strs B w a n L) {k : Nat} (hk : k < n) :
    ∃ b off s, a = some ⟨b, off, none⟩ ∧ b < B ∧ L[k]? = some s ∧ w.cell? ⟨b, off + k, none⟩ = some (.string s) ∧ s.size ≤ maxLen := by
  rcases h.cell with h0 | ⟨b, off, ha, hlt, hc⟩
  · omega
  · have hl : k < L.length := by rw [h.len]; exact hk
    exact ⟨b, off, L[k], ha, hlt, List.getElem?_eq_getElem hl, hc k _ (List.getElem?_eq_getElem hl), h.size _ (List.getElem_mem hl)⟩

set_option maxHeartbeats 2000000 in
theorem sum12 {w : World} {a : Option Addr} {n c : Nat} {L : List ByteArray} (h : Strs w.heap.size w a n L) (hn : n ≤ 65536) :
    Calls Try.prog 12 #[.slice a n c] w fun e w' => ∃ z : Nat, e = .returned (.int .i64 z) ∧ z ≤ 4194304 ∧ w' = w := by
  have H := hide h
  clear h
  go_enter Try.func12, Try.ntmps12
  go_wp2_with fail
  go_loopw [3, 4] (fun s i wr => ∃ (k z : Nat), k ≤ n ∧ i = .int .i64 k ∧ s = .int .i64 z ∧ z ≤ 1048576 ∧ w = wr) (fun _ i _ => n - (intOf i).toNat)
  case atStart => exact ⟨0, 0, Nat.zero_le _, rfl, rfl, by omega, rfl⟩
  case round =>
    obtain ⟨k, z, hk, rfl, rfl, hz, rfl⟩ := hrel
    by_cases hlt : k < n
    · obtain ⟨b, off, s, rfl, hb, hs, c0, hsz⟩ := (unhide H).get hlt
      clear hs
      unfold maxLen at hsz
      by_cases t0 : s.size ≤ 1048576
      · by_cases t1 : z + (16 + s.size) ≤ 1048576
        · go_wp2_with fail
          go_roundw
          case rel => exact ⟨k + 1, z + (16 + s.size), by omega, by go_num, by go_num, t1, trivial⟩
          case measure => simp [intOf]; omega
        · go_wp2_with fail
          go_ret
          exact ⟨z + (16 + s.size), by simp, by omega, rfl⟩
      · go_wp2_with fail
        go_ret
        exact ⟨1048577, rfl, by omega, rfl⟩
    · have hkn : k = n := by omega
      subst hkn
      go_wp2_with fail
      go_ret
      exact ⟨z, rfl, by omega, rfl⟩

/-! ### zzCloneStrings -/

/-- All are strings. -/
def StrL (xs : List Value) : Prop := ∀ v ∈ xs, ∃ s : ByteArray, v = .string s

theorem StrL.set {xs : List Value} (h : StrL xs) (k : Nat) (s : ByteArray) : StrL (xs.set k (.string s)) := by
  intro v hv
  rcases List.mem_or_eq_of_mem_set hv with h1 | h1
  · exact h v h1
  · exact ⟨s, h1⟩

theorem StrL.made (n : Nat) : StrL (madeCells (Value.string ⟨#[]⟩).cells (n * 1)).toList := by
  intro v hv
  have : (madeCells (Value.string ⟨#[]⟩).cells (n * 1)).toList = List.replicate n (.string ⟨#[]⟩) := by
    apply List.ext_getElem?
    intro i
    simp [madeCells, Value.cells, List.getElem?_replicate]
    by_cases h : i < n <;> simp [h, Nat.mod_one]
  rw [this] at hv
  exact ⟨_, (List.mem_replicate.1 hv).2⟩

theorem eqNil29 (w : World) (a : Option Addr) (l c : Nat) : (binOp .eql 29 (.slice a l c) (.slice none 0 0)).run Try.prog w = .ok (.bool a.isNone) w := Lib.run_eql_slice_nil w 29 9 a l c 0 0 Try.underlying29

theorem Keys.of_owns {w : World} {B g n : Nat} {xs : List Value} (h : w.ownsRow B 9 1 (.slice (some ⟨g, 0, none⟩) n n) n xs) (hx : StrL xs) : Keys w (some ⟨g, 0, none⟩) n n xs := by
  rcases h.2 with ⟨hv, h0⟩ | ⟨g', cap, cur, hv, hg, hh, hnc, hcm, hcs, ht⟩
  · cases hv
  · simp only [Value.slice.injEq, Option.some.injEq, Addr.mk.injEq, and_true, true_and] at hv
    obtain ⟨rfl, rfl⟩ := hv
    refine ⟨by have := h.1; omega, .inr ⟨g, rfl, rfl, (Array.getElem?_eq_some_iff.1 hh).1, fun j u hj => ?_⟩, hx⟩
    have hl : j < xs.length := (List.getElem?_eq_some_iff.1 hj).1
    rw [h.cellAt j (by have := h.1; omega), hj]

set_option maxHeartbeats 400000 in
theorem cloneS14_nil (w : World) : Calls Try.prog 14 #[.slice none 0 0] w fun e w' => e = .returned (.slice none 0 0) ∧ w' = w := by
  have qs := eqNil29
  go_enter Try.func14, Try.ntmps14
  go_wp2
  go_ret
  exact ⟨rfl, rfl⟩

set_option maxHeartbeats 1000000 in
theorem cloneS14_some {ad : Addr} {n c : Nat} {L : List ByteArray} {w : World} (h : Strs w.heap.size w (some ad) n L) (hn : n ≤ 65536) :
    Calls Try.prog 14 #[.slice (some ad) n c] w fun e w' => ∃ g xs, e = .returned (.slice (some ⟨g, 0, none⟩) n n) ∧ Keys w' (some ⟨g, 0, none⟩) n n xs ∧ Below w.heap.size w w' := by
  have qs := eqNil29
  have H := hide h
  clear h
  obtain ⟨i0, hi, hz0, hz1, hz2⟩ := info_parts info9
  go_enter Try.func14, Try.ntmps14
  go_wp2_with (at_make; refine wpList_make_full _ rfl _ _ 29 rfl w.heap.size 9 i0 (.string ⟨#[]⟩) 1 Try.underlying29 hi hz0 hz1 .i64 .i64 _ _ n rfl rfl rfl rfl (by rw [hz2]; omega) (by unfold maxLen; omega) (Nat.le_refl _) ?_; intro w1 hown1 hgrow1)
  have hb1 : Below w.heap.size w w1 := (Below.refl _ _).grown hgrow1 (Nat.le_refl _) (fun k hk => by cases hk)
  go_loopw [4] (fun i wr => ∃ (k : Nat) (xs : List Value), k ≤ n ∧ i = .int .i64 k ∧ wr.ownsRow w.heap.size 9 1 (.slice (some ⟨w.heap.size, 0, none⟩) n n) n xs ∧ Hid (StrL xs) ∧ Below w.heap.size w wr) (fun i _ => n - (intOf i).toNat)
  case atStart => exact ⟨0, _, Nat.zero_le _, rfl, hown1, hide (StrL.made n), hb1⟩
  case round =>
    obtain ⟨k, xs, hk, rfl, hown, HU, hbel⟩ := hrel
    clear hown1 hgrow1 hb1
    by_cases hlt : k < n
    · obtain ⟨b, off, s, hab, hbs, _, hx, _⟩ := (unhide H).get hlt
      injection hab with hab
      subst hab
      have c1 := (hbel.cell (p := ⟨b, off + k, none⟩) hbs).trans hx
      have c2 : wr.cell? ⟨w.heap.size, k, none⟩ = xs[k]? := hown.cellAt k (by omega)
      have hml : k < xs.length := by have := hown.1; omega
      rw [List.getElem?_eq_getElem hml] at c2
      have f2 := hown.frozenAt k
      have hst := hown.stored k (.string s)
      have R1 := hide hst.1
      have R2 := hide (hbel.grown hst.2 hbel.size (fun j hj => by cases hj; exact Nat.le_refl _))
      clear hst hx
      generalize xs[k] = y at c2
      clear hown hbel
      go_wp2_with fail
      go_roundw
      case rel => exact ⟨k + 1, _, by omega, by go_num, unhide R1, hide ((unhide HU).set k s), unhide R2⟩
      case measure => simp [intOf]; omega
    · have hkn : k = n := by omega
      subst hkn
      have HR := hide (And.intro hown hbel)
      clear hown hbel
      go_wp2_with fail
      go_ret
      exact ⟨_, xs, rfl, Keys.of_owns (unhide HR).1 (unhide HU), (unhide HR).2⟩

theorem cloneS14 {a : Option Addr} {n c : Nat} {L : List ByteArray} {w : World} (h : Strs w.heap.size w a n L) (hc : a = none → n = 0 ∧ c = 0) (hn : n ≤ 65536) :
    Calls Try.prog 14 #[.slice a n c] w fun e w' => ∃ a' c' xs, e = .returned (.slice a' n c') ∧ Keys w' a' n c' xs ∧ Below w.heap.size w w' := by
  cases a with
  | none =>
    obtain ⟨rfl, rfl⟩ := hc rfl
    refine (cloneS14_nil w).mono fun e w' ⟨he, hw⟩ => ?_
    subst he hw
    exact ⟨none, 0, [], rfl, ⟨rfl, .inl ⟨rfl, rfl, rfl⟩, by simp⟩, Below.refl _ _⟩
  | some ad =>
    refine (cloneS14_some h hn).mono fun e w' ⟨g, xs, he, h1, h2⟩ => ?_
    exact ⟨_, _, xs, he, h1, h2⟩

end Go.Proofs.Qxb6603799a

/-
  ZZNewHeldVoters; the probes.
-/
import Derived.Test.Qxb6603397aHeld
import Derived.Deep.RegionHeld3
namespace Go.Proofs.Qxb6603397a
open Go.RowKit Go.Maps

section
variable {w : World} {vb : Nat} {fa : Option Addr} {fc : Nat} {F : List Int} {m : Option Nat} {L : List Int}

set_option maxHeartbeats 400000 in
theorem hasSet26 (h : Held w vb fa fc F m L) : Calls Try.prog 26 #[.pointer (some ⟨vb, 0, none⟩)] w fun e w' => e = .returned (.bool m.isSome) ∧ w' = w := by
  have q1 := neNil70
  have c2 := h.vals
  clear h
  go_enter Try.func26, Try.ntmps26
  go_wp2
  go_ret
  exact ⟨rfl, rfl⟩

set_option maxHeartbeats 400000 in
theorem setLen27_none (h : Held w vb fa fc F none L) : Calls Try.prog 27 #[.pointer (some ⟨vb, 0, none⟩)] w fun e w' => e = .returned (.int .i64 0) ∧ w' = w := by
  have q1 := fun (w : World) (ty : TypeId) => Maps.len_nil (P := Try.prog) (w := w) (t := 70) Try.underlying70 ty
  have c2 := h.vals
  clear h
  go_enter Try.func27, Try.ntmps27
  go_wp2
  go_ret
  exact ⟨rfl, rfl⟩

set_option maxHeartbeats 400000 in
theorem setLen27_some {mb : Nat} (h : Held w vb fa fc F (some mb) L) : Calls Try.prog 27 #[.pointer (some ⟨vb, 0, none⟩)] w fun e w' => e = .returned (.int .i64 (dist L)) ∧ w' = w := by
  have c2 := h.vals
  have hown := (h.ismap mb rfl).2
  clear h
  go_enter Try.func27, Try.ntmps27
  go_wp2_with (at_len; refine wpList_len_own _ rfl _ 70 rfl 39 73 Try.underlying70 _ mb _ _ rfl hown ?_)
  go_ret
  exact ⟨rfl, rfl⟩

/-- What len(v.validators) is. -/
def setLen (m : Option Nat) (L : List Int) : Nat := if m.isNone then 0 else dist L

theorem setLen27 (h : Held w vb fa fc F m L) : Calls Try.prog 27 #[.pointer (some ⟨vb, 0, none⟩)] w fun e w' => e = .returned (.int .i64 (setLen m L)) ∧ w' = w := by
  cases m with
  | none => exact setLen27_none h
  | some mb => exact setLen27_some h

set_option maxHeartbeats 400000 in
theorem inSet28 {mb : Nat} (h : Held w vb fa fc F (some mb) L) (x : Int) (hx : (Lit.int .u64 x).wf = true) :
    Calls Try.prog 28 #[.pointer (some ⟨vb, 0, none⟩), .int .u64 x] w fun e w' => e = .returned (.bool (inB L x)) ∧ Below w.heap.size w w' := by
  have c2 := h.vals
  have hown := (h.ismap mb rfl).2
  have hkey : keyOf Try.prog 39 (.int .u64 x) = some (.int .u64 x) := keyOf_int_mk Try.underlying39 hx
  clear h hx
  go_enter Try.func28, Try.ntmps28
  go_wp2_with (at_lookup; refine wpList_lookup_own_unit _ rfl _ _ 70 rfl 39 73 law39 Try.underlying70 (zero73 _) mb _ _ rfl hown _ _ rfl hkey ?_)
  go_ret
  refine ⟨?_, (Below.refl _ _).alloc (Nat.le_refl _) _⟩
  rw [← has_setL]
  rfl

set_option maxHeartbeats 400000 in
theorem first25 (h : Held w vb fa fc F m L) : Calls Try.prog 25 #[.pointer (some ⟨vb, 0, none⟩)] w fun e w' => e = .returned (.slice fa F.length fc) ∧ w' = w := by
  have c1 := h.first
  generalize F.length = n at *
  clear h
  go_enter Try.func25, Try.ntmps25
  go_wp2
  go_ret
  exact ⟨rfl, rfl⟩

set_option maxHeartbeats 400000 in
theorem has30 (h : Held w vb fa fc F m L) (hs : incB F = true) (hl : F.length ≤ 140737488355328) (x : Int) (hx : (Lit.int .u64 x).wf = true) :
    Calls Try.prog 30 #[.pointer (some ⟨vb, 0, none⟩), .int .u64 x] w fun e w' => e = .returned (.bool (inB L x)) ∧ Below w.heap.size w w' := by
  have H := hide h
  have HS := hide hs
  clear h hs
  go_enter Try.func30, Try.ntmps30
  go_wp2_with fail
  refine (has45 (unhide H) (unhide HS) hl x hx).mono ?_
  rintro e w' ⟨rfl, hb⟩
  go_wp2
  go_ret
  exact ⟨rfl, hb⟩
end

/-- The block of a new heldVoters (Z: the zero value's cells). -/
def V0 (Z : Array Value) (fa : Option Addr) (n fc : Nat) : Array Value := Z.setIfInBounds 101 (.slice fa n fc)
def V1 (Z : Array Value) (fa : Option Addr) (n fc mb : Nat) : Array Value := (V0 Z fa n fc).setIfInBounds 102 (.map (some mb))
theorem zero72_size : Try.zeroCells72.size = 103 := by kernel_rfl
theorem zero72_map : Try.zeroCells72[102]? = some (.map none) := by kernel_rfl
theorem V0_first {Z : Array Value} (hZ : Z.size = 103) (fa : Option Addr) (n fc : Nat) : (V0 Z fa n fc)[101]? = some (.slice fa n fc) := by
  simp [V0, hZ]
theorem V1_first {Z : Array Value} (hZ : Z.size = 103) (fa : Option Addr) (n fc mb : Nat) : (V1 Z fa n fc mb)[101]? = some (.slice fa n fc) := by
  rw [V1, Array.getElem?_setIfInBounds_ne (by omega), V0_first hZ]
theorem V1_map {Z : Array Value} (hZ : Z.size = 103) (fa : Option Addr) (n fc mb : Nat) : (V1 Z fa n fc mb)[102]? = some (.map (some mb)) := by
  simp [V1, V0, hZ]
theorem V0_map {Z : Array Value} (h : Z[102]? = some (.map none)) (fa : Option Addr) (n fc : Nat) : (V0 Z fa n fc)[102]? = some (.map none) := by
  rw [V0, Array.getElem?_setIfInBounds_ne (by omega), h]

theorem make70 (n : Int) (w : World) : (Instr.makeMap 70 (some (.int .i64 n))).run Try.prog w = .ok (.map (some w.heap.size)) (w.alloc (.map #[] 0)) := by
  simp [Instr.makeMap, run_underlying Try.underlying70, asInt, asIntOf, Result.andThen]

theorem Held.of_block {w : World} {vb : Nat} {fa : Option Addr} {fc : Nat} {F : List Int} {m : Option Nat} {L : List Int} {V : Array Value} (hh : w.heap[vb]? = some (.cells V 72 (0, 0)))
    (h1 : V[101]? = some (.slice fa F.length fc)) (h2 : V[102]? = some (.map m)) (hr : Sl vb w fa F.length fc F) (hn : m = none → L = F) (hm : ∀ mb, m = some mb → vb < mb ∧ w.ownsMap Try.prog 39 unitElem mb L.length (setL L)) : Held w vb fa fc F m L :=
  ⟨(cell_of_row w vb 101 V 72 (0, 0) hh).trans h1, (cell_of_row w vb 102 V 72 (0, 0) hh).trans h2, frozen_of_row w vb 102 V 72 hh, hr, hn, hm⟩

set_option maxHeartbeats 400000 in
theorem new20_no (fa sa : Option Addr) (n fc sn sc : Nat) (w : World) :
    Calls Try.prog 20 #[.slice fa n fc, .slice sa sn sc, .bool false] w fun e w' => e = .returned (.pointer (some ⟨w.heap.size, 0, none⟩)) ∧ w' = w.alloc (.cells (V0 Try.zeroCells72 fa n fc) 72) := by
  go_enter Try.func20, Try.ntmps20
  go_wp2
  go_ret
  exact ⟨rfl, rfl⟩

theorem put_new {w : World} {mb k : Nat} {L : List Int} {x : Int} (h : w.ownsMap Try.prog 39 unitElem mb k (setL L)) (hk : k < maxLen) (hx : (Lit.int .u64 x).wf = true) :
    ∃ w', (Instr.mapUpdate 70 (.map (some mb)) (.int .u64 x) (.agg #[])).run Try.prog w = .ok () w' ∧ w'.ownsMap Try.prog 39 unitElem mb (k + 1) (setL (L ++ [x])) ∧ w.grownBy w' (some mb) := by
  obtain ⟨w', h1, h2, h3⟩ := h.update law39 Try.underlying70 hk (keyOf_int_mk Try.underlying39 hx) unitElem_mk
  exact ⟨w', h1, by rw [setL_snoc]; exact h2, h3⟩

/-- What a walk is told of a slice whose address is known only where there is an element. -/
def At (w : World) (a : Option Addr) (zs : List Int) (n : Nat) : Prop := 0 < n → ∃ b off, a = some ⟨b, off, none⟩ ∧ b < w.heap.size ∧ ∀ j, j < n → w.cell? ⟨b, off + j, none⟩ = some (.int .u64 (zs.getD j 0))

theorem Sl.at {B : Nat} {w : World} {a : Option Addr} {n c : Nat} {zs : List Int} (h : Sl B w a n c zs) (hB : B ≤ w.heap.size) : At w a zs n := by
  intro hp
  rcases h.cell with h0 | ⟨b, off, rfl, hlt, hc⟩
  · omega
  · exact ⟨b, off, rfl, by omega, hc⟩

set_option maxHeartbeats 1000000 in
theorem new20_yes (fa sa : Option Addr) (f s fc sc : Nat) (F S : List Int) (w : World) (hF : f ≤ 1000000) (hS : s ≤ 1000000) (wF : ∀ k, (Lit.int .u64 (F.getD k 0)).wf = true) (wS : ∀ k, (Lit.int .u64 (S.getD k 0)).wf = true)
    (aF : At w fa F f) (aS : At w sa S s) (lF : F.length = f) (lS : S.length = s) :
    Calls Try.prog 20 #[.slice fa f fc, .slice sa s sc, .bool true] w fun e w' => e = .returned (.pointer (some ⟨w.heap.size, 0, none⟩)) ∧
      w'.heap[w.heap.size]? = some (.cells (V1 Try.zeroCells72 fa f fc (w.heap.size + 1)) 72 (0, 0)) ∧ w'.ownsMap Try.prog 39 unitElem (w.heap.size + 1) (f + s) (setL (F ++ S)) ∧ Below w.heap.size w w' := by
  have hmm := make70
  have HL := hide (And.intro lF lS)
  clear lF lS
  go_enter Try.func20, Try.ntmps20
  go_wp2
  go_loopw [8] (fun i wr => ∃ k : Nat, k ≤ f ∧ i = .int .i64 k ∧ wr.heap[w.heap.size]? = some (.cells (V1 Try.zeroCells72 fa f fc (w.heap.size + 1)) 72 (0, 0)) ∧
      wr.ownsMap Try.prog 39 unitElem (w.heap.size + 1) k (setL (F.take k)) ∧ Below w.heap.size w wr ∧ w.heap.size + 2 ≤ wr.heap.size) (fun i _ => f - (intOf i).toNat)
  case atStart =>
    refine ⟨0, Nat.zero_le _, rfl, ?_, ?_, ((Below.refl _ _).alloc (Nat.le_refl _) _).alloc (by simp) _, by simp⟩
    · rw [Below.heap_alloc _ _ _ (by simp)]
      exact heap_alloc_new w _
    · have := World.ownsMap_made (H := Unit) (w.alloc (.cells (V1 Try.zeroCells72 fa f fc (w.heap.size + 1)) 72)) Try.prog 39 unitElem
      rw [World.size_alloc] at this
      exact this
  case round =>
    obtain ⟨k, hk, rfl, hh, hown, hbel, hsz⟩ := hrel
    by_cases hlt : k < f
    · obtain ⟨fb, foff, rfl, hfb, cF⟩ := aF (by omega)
      have c1 := (hbel.cell (p := ⟨fb, foff + k, none⟩) hfb).trans (cF k hlt)
      have c2 := (cell_of_row wr _ 102 _ 72 (0, 0) hh).trans (V1_map zero72_size _ _ _ _)
      obtain ⟨w1, hrun, hown1, hgrow1⟩ := put_new hown.drew (x := F.getD k 0) (by unfold maxLen; omega) (wF k)
      have R := hide (And.intro hown1 (And.intro hgrow1 (And.intro hh hbel)))
      clear hown1 hgrow1 hh hbel hown cF aF aS
      generalize hx : F.getD k 0 = x at *
      have HX := hide hx
      clear hx
      go_wp2_with fail
      go_region
      go_wp2
      go_roundw
      case rel =>
        obtain ⟨hown1, hgrow1, hh, hbel⟩ := unhide R
        have hs1 := hgrow1.size
        simp at hs1
        refine ⟨k + 1, by omega, by go_num, ?_, ?_, hbel.drew.grown hgrow1 (by simp; omega) (fun j hj => by cases hj; omega), by omega⟩
        · rw [hgrow1.block _ (by simp; omega) (by simp)]
          exact hh
        · rw [List.take_add_one, List.getElem?_eq_getElem (by rw [(unhide HL).1]; omega)]
          rw [← unhide HX, List.getD, List.getElem?_eq_getElem (by rw [(unhide HL).1]; omega)] at hown1
          exact hown1
      case measure => simp [intOf]; omega
    · have hkf : k = f := by omega
      subst hkf
      rw [List.take_of_length_le (by rw [(unhide HL).1]; omega)] at hown
      clear aF
      go_wp2
      go_loopw [9] (fun i wr => ∃ j : Nat, j ≤ s ∧ i = .int .i64 j ∧ wr.heap[w.heap.size]? = some (.cells (V1 Try.zeroCells72 fa k fc (w.heap.size + 1)) 72 (0, 0)) ∧
          wr.ownsMap Try.prog 39 unitElem (w.heap.size + 1) (k + j) (setL (F ++ S.take j)) ∧ Below w.heap.size w wr ∧ w.heap.size + 2 ≤ wr.heap.size) (fun i _ => s - (intOf i).toNat)
      case atStart =>
        exact ⟨0, Nat.zero_le _, rfl, hh, by simpa using hown, hbel, hsz⟩
      case round =>
        clear hh hown hbel hsz
        rename_i wr2
        obtain ⟨j, hj, rfl, hh, hown, hbel, hsz⟩ := hrel
        by_cases hlt2 : j < s
        · obtain ⟨sb, soff, rfl, hsb, cS⟩ := aS (by omega)
          have c1 := (hbel.cell (p := ⟨sb, soff + j, none⟩) hsb).trans (cS j hlt2)
          have c2 := (cell_of_row _ _ 102 _ 72 (0, 0) hh).trans (V1_map zero72_size _ _ _ _)
          obtain ⟨w1, hrun, hown1, hgrow1⟩ := put_new hown.drew (x := S.getD j 0) (by unfold maxLen; omega) (wS j)
          have R := hide (And.intro hown1 (And.intro hgrow1 (And.intro hh hbel)))
          clear hown1 hgrow1 hh hbel hown cS aS
          generalize hx : S.getD j 0 = x at *
          have HX := hide hx
          clear hx
          go_wp2_with fail
          go_region
          go_wp2
          go_roundw
          case rel =>
            obtain ⟨hown1, hgrow1, hh, hbel⟩ := unhide R
            have hs1 := hgrow1.size
            simp at hs1
            refine ⟨j + 1, by omega, by go_num, ?_, ?_, hbel.drew.grown hgrow1 (by simp; omega) (fun i hi => by cases hi; omega), by omega⟩
            · rw [hgrow1.block _ (by simp; omega) (by simp)]
              exact hh
            · rw [List.take_add_one, List.getElem?_eq_getElem (by rw [(unhide HL).2]; omega)]
              rw [← unhide HX, List.getD, List.getElem?_eq_getElem (by rw [(unhide HL).2]; omega), List.append_assoc] at hown1
              exact hown1
          case measure => simp [intOf]; omega
        · have hjs : j = s := by omega
          subst hjs
          clear aS
          go_wp2
          go_ret
          refine ⟨rfl, hh, ?_, hbel⟩
          rw [List.take_of_length_le (by rw [(unhide HL).2]; omega)] at hown
          exact hown

/-- ZZNewHeldVoters. -/
theorem new20 {B : Nat} {fa sa : Option Addr} {f s fc sc : Nat} {F S : List Int} {w : World} (hs : Bool) (h1 : Sl B w fa f fc F) (h2 : Sl B w sa s sc S) (hB : B ≤ w.heap.size) (hF : f ≤ 1000000) (hS : s ≤ 1000000) :
    Calls Try.prog 20 #[.slice fa f fc, .slice sa s sc, .bool hs] w fun e w' => ∃ m, e = .returned (.pointer (some ⟨w.heap.size, 0, none⟩)) ∧ m.isSome = hs ∧
      Held w' w.heap.size fa fc F m (if hs then F ++ S else F) ∧ Below w.heap.size w w' := by
  cases hs with
  | false =>
    refine (new20_no fa sa f fc s sc w).mono fun e w' ⟨he, hw⟩ => ?_
    subst hw
    refine ⟨none, he, rfl, ?_, (Below.refl _ _).alloc (Nat.le_refl _) _⟩
    refine Held.of_block (heap_alloc_new w _) ?_ (V0_map zero72_map _ _ _) ?_ (fun _ => rfl) (fun mb hm => by cases hm)
    · rw [V0_first zero72_size, h1.len]
    · rw [h1.len]
      exact (h1.mono hB).below ((Below.refl _ _).alloc (Nat.le_refl _) _)
  | true =>
    refine (new20_yes fa sa f s fc sc F S w hF hS h1.wf_at h2.wf_at (h1.at hB) (h2.at hB) h1.len h2.len).mono fun e w' ⟨he, hh, hown, hb⟩ => ?_
    refine ⟨some (w.heap.size + 1), he, rfl, ?_, hb⟩
    refine Held.of_block hh ?_ (V1_map zero72_size _ _ _ _) ?_ (fun h => by cases h) (fun mb hm => ?_)
    · rw [V1_first zero72_size, h1.len]
    · rw [h1.len]
      exact (h1.mono hB).below hb
    · cases hm
      refine ⟨by omega, ?_⟩
      rw [if_pos rfl, List.length_append, h1.len, h2.len]
      exact hown

end Go.Proofs.Qxb6603397a

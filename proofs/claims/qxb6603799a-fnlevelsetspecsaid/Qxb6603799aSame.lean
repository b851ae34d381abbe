/-
  zzBytesEqual, zzSameItem (at one and the same value).
-/
import Derived.Test.Qxb6603799aSize
namespace Go.Proofs.Qxb6603799a
open Go.RowKit

set_option maxHeartbeats 1000000 in
theorem equal27 {A : Nat} {w : World} {v : Value} (h : Byt A w.heap.size w v) (hs : vlen v ≤ 1048576) :
    Calls Try.prog 27 #[v, v] w fun e w' => e = .returned (.bool true) ∧ Below w.heap.size w w' := by
  obtain ⟨a, n, c, rfl, h1, h2, h3, h4⟩ := h
  have hn : n ≤ 1048576 := hs
  unfold maxLen at h2
  clear hs
  have H4 := hide h4
  clear h4
  go_enter Try.func27, Try.ntmps27
  go_wp2_with fail
  go_loopw [5] (fun i wr => ∃ k : Nat, k ≤ n ∧ i = .int .i64 k ∧ Hid (Below w.heap.size w wr)) (fun i _ => n - (intOf i).toNat)
  case atStart => exact ⟨0, Nat.zero_le _, rfl, hide (Below.refl _ _)⟩
  case round =>
    obtain ⟨k, hk, rfl, HB⟩ := hrel
    by_cases hlt : k < n
    · rcases unhide H4 with h0 | ⟨b, off, rfl, _, hb, hc⟩
      · omega
      · obtain ⟨x, hx⟩ := hc k hlt
        have c1 := ((unhide HB).cell (p := ⟨b, off + k, none⟩) hb).trans hx
        clear hc hx
        go_wp2_with fail
        go_quiet (fail)
        go_wp2_with fail
        go_roundw
        case rel => exact ⟨k + 1, by omega, by go_num, hide (below_drewN (unhide HB) _)⟩
        case measure => simp [intOf]; omega
    · have hkn : k = n := by omega
      subst hkn
      go_wp2_with fail
      go_ret
      exact ⟨rfl, unhide HB⟩

theorem eqNil23 (w : World) (a : Option Addr) (l c : Nat) : (binOp .eql 23 (.slice a l c) (.slice none 0 0)).run Try.prog w = .ok (.bool a.isNone) w := Lib.run_eql_slice_nil w 23 5 a l c 0 0 Try.underlying23

theorem box39_cells (w : World) (v x l : Value) : ((w.alloc (.cells #[v, x, l] 39)).cell? ⟨w.heap.size, 0, none⟩ = some v) ∧ ((w.alloc (.cells #[v, x, l] 39)).cell? ⟨w.heap.size, 1, none⟩ = some x) ∧ ((w.alloc (.cells #[v, x, l] 39)).cell? ⟨w.heap.size, 2, none⟩ = some l) := by
  refine ⟨?_, ?_, ?_⟩ <;> simp

set_option maxHeartbeats 1000000 in
theorem same22 {A : Nat} {w : World} {v : Value} (h : Byt A w.heap.size w v) (hs : vlen v ≤ 1048576) (x l : Int) :
    Calls Try.prog 22 #[.agg #[v, .int .u64 x, .int .u64 l], v, .int .u64 x, .int .u64 l] w fun e w' => e = .returned (.bool true) ∧ Below w.heap.size w w' := by
  have q1 := eqNil23
  have hb1 : Below w.heap.size w (w.alloc (.cells #[v, .int .u64 x, .int .u64 l] 39)) := (Below.refl _ _).alloc (Nat.le_refl _) _
  obtain ⟨k0, k1, k2⟩ := box39_cells w v (.int .u64 x) (.int .u64 l)
  have hw : w.heap.size < (w.alloc (.cells #[v, .int .u64 x, .int .u64 l] 39)).heap.size := by simp
  have h' := h.step hb1
  have HH := hide (And.intro h' (And.intro hb1 (And.intro k0 (And.intro k1 k2))))
  obtain ⟨a, n, c, rfl, _⟩ := h
  clear h' hb1
  go_enter Try.func22, Try.ntmps22
  go_wp2_with fail
  refine (equal27 (unhide HH).1 hs).mono ?_
  rintro e w2 ⟨rfl, b2⟩
  have c1 := (b2.cell (p := ⟨w.heap.size, 1, none⟩) hw).trans (unhide HH).2.2.2.1
  have c2 := (b2.cell (p := ⟨w.heap.size, 2, none⟩) hw).trans (unhide HH).2.2.2.2
  have HB2 := hide b2
  clear b2 k0 k1 k2
  go_wp2_with fail
  go_ret
  exact ⟨by simp, Below.trans' (unhide HH).2.1 (unhide HB2)⟩

end Go.Proofs.Qxb6603799a

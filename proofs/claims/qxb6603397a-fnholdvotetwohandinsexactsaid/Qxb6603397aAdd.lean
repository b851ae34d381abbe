/-
  (*heldVoters).add.
-/
import Derived.Test.Qxb6603397aNew
namespace Go.Proofs.Qxb6603397a
open Go.RowKit Go.Maps

/-- Of the first k numbers of X those that L lacks. -/
def fr (X L : List Int) (k : Nat) : List Int := (X.take k).filter (fun x => !inB L x)

theorem fr_le (X L : List Int) (k : Nat) : (fr X L k).length ≤ k := by
  have h1 := List.length_filter_le (fun x => !inB L x) (X.take k)
  have h2 : (X.take k).length ≤ k := List.length_take_le _ _
  unfold fr
  omega

theorem fr_succ (X L : List Int) (k : Nat) (hk : k < X.length) : fr X L (k + 1) = if inB L (X.getD k 0) = true then fr X L k else fr X L k ++ [X.getD k 0] := by
  unfold fr
  rw [List.take_add_one, List.filter_append, List.getD, List.getElem?_eq_getElem hk]
  by_cases h : inB L X[k] = true <;> simp [h]

theorem vals_append (a b : List Int) : vals (a ++ b) = vals a ++ vals b := by simp [vals]

theorem grownBy_of_below {w w' : World} (h : Below w.heap.size w w') : w.grownBy w' none := ⟨h.os, h.tape, h.output, h.size, fun k hk _ => h.block k hk⟩

theorem At.below {w w' : World} {a : Option Addr} {zs : List Int} {n : Nat} (h : At w a zs n) (hb : Below w.heap.size w w') : At w' a zs n := by
  intro hn
  obtain ⟨b, off, rfl, hlt, hc⟩ := h hn
  exact ⟨b, off, rfl, Nat.lt_of_lt_of_le hlt hb.size, fun j hj => (hb.cell (p := ⟨b, off + j, none⟩) hlt).trans (hc j hj)⟩

set_option maxHeartbeats 2000000 in
theorem add44_nil (w : World) (vb : Nat) (fa : Option Addr) (fc : Nat) (F : List Int) (m : Option Nat) (L : List Int) (h : Held w vb fa fc F m L) (hs : incB F = true) (hl : F.length ≤ 140737488355328)
    (xa : Option Addr) (n xc : Nat) (X : List Int) (hn : X.length = n) (hbig : n ≤ 1000000) (aX : At w xa X n) (wX : ∀ k, (Lit.int .u64 (X.getD k 0)).wf = true) (hfr : fr X L n = []) :
    Calls Try.prog 44 #[.pointer (some ⟨vb, 0, none⟩), .slice xa n xc] w fun e w' => e = .returned (.slice none 0 0) ∧ Below w.heap.size w w' := by
  have q1 := eqNil23
  have H := hide h
  have HS := hide hs
  have HL := hide hn
  have HFR := hide hfr
  clear h hs hn hfr
  obtain ⟨i0, hi, hz0, hz1, hz2⟩ := info_parts Try.info39
  go_enter Try.func44, Try.ntmps44
  go_wp2
  go_loopw [5, 14] (fun v i wr => ∃ k : Nat, k ≤ n ∧ i = .int .i64 k ∧ wr.ownsRow w.heap.size 39 1 v (fr X L k).length (vals (fr X L k)) ∧ (fr X L k = [] → v = .slice none 0 0) ∧ Below w.heap.size w wr) (fun _ i _ => n - (intOf i).toNat)
  case atStart => exact ⟨0, Nat.zero_le _, rfl, World.ownsRow_nil _ _ _ _, fun _ => rfl, Below.refl _ _⟩
  case round =>
    obtain ⟨k, hk, rfl, hrow, hnil, hbel⟩ := hrel
    by_cases hlt : k < n
    · obtain ⟨xb, xoff, rfl, hxb, cX⟩ := aX (by omega)
      have c1 := (hbel.cell (p := ⟨xb, xoff + k, none⟩) hxb).trans (cX k hlt)
      have hx := wX k
      have hfl := fr_le X L k
      have HH := hide ((unhide H).below hbel)
      have HR := hide (And.intro hrow (And.intro hnil hbel))
      have hks : w.heap.size ≤ wr.heap.size := hbel.size
      have HF := hide (fr_succ X L k (by rw [unhide HL]; omega))
      clear cX
      generalize hxe : X.getD k 0 = x at *
      clear hxe
      go_wp2_with fail
      refine (has45 (unhide HH) (unhide HS) hl x hx).mono ?_
      rintro e w1 ⟨rfl, hb1⟩
      have hks1 : wr.heap.size ≤ w1.heap.size := hb1.size
      have hbel1 := hbel.trans (hb1.mono hbel.size)
      have hrow1 := hrow.kept (grownBy_of_below hb1) (by simp; exact Classical.em _)
      clear HR hrow hbel HH
      by_cases hin : inB L x = true
      · go_wp2
        go_roundw
        case rel =>
          have e1 : fr X L (k + 1) = fr X L k := by rw [unhide HF, if_pos hin]
          refine ⟨k + 1, by omega, by go_num, ?_, ?_, hbel1⟩
          · rw [e1]; exact hrow1
          · rw [e1]; exact hnil
        case measure => simp [intOf]; omega
      · have hin' : inB L x = false := by simpa using hin
        have e1 : Hid (fr X L (k + 1) = fr X L k ++ [x]) := hide (by rw [unhide HF, if_neg hin])
        by_cases hf0 : fr X L k = []
        · have hv := hnil hf0
          subst hv
          clear hnil
          rw [hf0] at hrow1 e1 hfl
          clear HF hin hrow1
          go_wp2_with (first
            | (at_make; refine wpList_make_own _ rfl _ _ 23 rfl w.heap.size 39 i0 (.int .u64 0) 1 Try.underlying23 hi hz0 hz1 .i64 .i64 _ (n - k) rfl rfl (by omega) (by rw [hz2]; omega) (by unfold maxLen; omega) (by omega) ?_; intro w2 hown2 hgrow2)
            | (at_builtin; refine wpList_append_own _ rfl _ _ 23 rfl w.heap.size 39 i0 (.int .u64 0) 1 8 Try.underlying23 hi hz0 hz1 hz2 rfl (by decide) _ _ _ rfl (hown2.alloc _) ⟨w2.heap.size, 0, none⟩ 1 1 [.int .u64 x] rfl rfl (cell_one_new _ _ _) (ints_oneCell .u64 [x]) (by unfold maxLen; omega) (by omega) (by have := hgrow2.size; simp; omega) ?_; intro v' w3 hown3 hgrow3 hnil3))
          have s2 := hgrow2.size
          have s3 := hgrow3.size
          simp at s3
          go_roundw
          case rel =>
            refine ⟨k + 1, by omega, by go_num, ?_, ?_, ?_⟩
            · rw [unhide e1]; exact hown3
            · rw [unhide e1]; intro h; simp at h
            · exact ((hbel1.grown hgrow2 (by omega) (fun j hj => by cases hj)).alloc (by omega) _).grown hgrow3 (by simp; omega) (fun j hj => by cases hj; exact Nat.le_trans hks hks1)
          case measure => simp [intOf]; omega
        · obtain ⟨g, cap, cur, hv, hg, _⟩ := (hrow1.2.resolve_left (fun h => hf0 (List.eq_nil_of_length_eq_zero h.2)))
          subst hv
          clear hnil HF hin
          go_wp2_with (at_builtin; refine wpList_append_own _ rfl _ _ 23 rfl w.heap.size 39 i0 (.int .u64 0) 1 8 Try.underlying23 hi hz0 hz1 hz2 rfl (by decide) _ _ _ rfl (hrow1.alloc _) ⟨w1.heap.size, 0, none⟩ 1 1 [.int .u64 x] rfl rfl (cell_one_new _ _ _) (ints_oneCell .u64 [x]) (by unfold maxLen; omega) (by omega) (by simp; omega) ?_; intro v' w3 hown3 hgrow3 hnil3)
          have s3 := hgrow3.size
          simp at s3
          go_roundw
          case rel =>
            refine ⟨k + 1, by omega, by go_num, ?_, ?_, ?_⟩
            · rw [unhide e1, vals_append, List.length_append]; exact hown3
            · rw [unhide e1]; intro h; simp at h
            · exact (hbel1.alloc (by omega) _).grown hgrow3 (by simp; omega) (fun j hj => by cases hj; exact hg)
          case measure => simp [intOf]; omega
    · have hkn : k = n := by omega
      subst hkn
      have hv := hnil (unhide HFR)
      subst hv
      clear aX
      go_wp2
      go_ret
      exact ⟨rfl, hbel⟩

end Go.Proofs.Qxb6603397a

/-
  (*heldVoters).add where something is new and the set is yet to be made; the contract whole.
-/
import Derived.Test.Qxb6603397aAddS
namespace Go.Proofs.Qxb6603397a
open Go.RowKit Go.Maps

set_option maxHeartbeats 2000000 in
theorem add44_none (w : World) (vb : Nat) (fa : Option Addr) (fc : Nat) (F : List Int) (L : List Int) (h : Held w vb fa fc F none L) (hs : incB F = true) (hl : F.length ≤ 1000000)
    (xa : Option Addr) (n xc : Nat) (X : List Int) (hn : X.length = n) (hbig : n ≤ 1000000) (aX : At w xa X n) (wX : ∀ k, (Lit.int .u64 (X.getD k 0)).wf = true) (hfr : fr X L n ≠ []) :
    Calls Try.prog 44 #[.pointer (some ⟨vb, 0, none⟩), .slice xa n xc] w fun e w' => ∃ g cap mb, e = .returned (.slice (some ⟨g, 0, none⟩) (fr X L n).length cap) ∧ w.heap.size ≤ mb ∧
      w'.ownsRow w.heap.size 39 1 (.slice (some ⟨g, 0, none⟩) (fr X L n).length cap) (fr X L n).length (vals (fr X L n)) ∧ Held w' vb fa fc F (some mb) (L ++ fr X L n) ∧ Keep (· = vb) w w' := by
  have q1 := eqNil23
  have q2 := eqNil70
  have hmm := make70
  have hLF := hide (h.nomap rfl)
  have H := hide h
  have HS := hide hs
  have HL := hide hn
  have HFR := hide hfr
  have wfr := fr_wf L wX n
  have wF := h.row.wf_at
  have hvw : vb < w.heap.size := h.lt
  clear h hs hn hfr
  obtain ⟨i0, hi, hz0, hz1, hz2⟩ := info_parts Try.info39
  go_enter Try.func44, Try.ntmps44
  go_wp2
  go_loopw [5, 14] (fun v i wr => ∃ k : Nat, k ≤ n ∧ i = .int .i64 k ∧ wr.ownsRow w.heap.size 39 1 v (fr X L k).length (vals (fr X L k)) ∧ (fr X L k = [] → v = .slice none 0 0) ∧ Below w.heap.size w wr) (fun _ i _ => n - (intOf i).toNat)
  case atStart => exact ⟨0, Nat.zero_le _, rfl, World.ownsRow_nil _ _ _ _, fun _ => rfl, Below.refl _ _⟩
  case round =>
    obtain ⟨k, hk, rfl, hrow, hnil, hbel⟩ := hrel
    by_cases hlt : k < n
    · obtain ⟨xb, xoff, rfl, hxb, cX⟩ := aX (by omega)
      have c1 := (hbel.cell (p := ⟨xb, xoff + k, none⟩) hxb).trans (cX k hlt)
      have hx := wX k
      have hfl := fr_le X L k
      have HH := hide ((unhide H).below hbel)
      have HR := hide (And.intro hrow (And.intro hnil hbel))
      have hks : w.heap.size ≤ wr.heap.size := hbel.size
      have HF := hide (fr_succ X L k (by rw [unhide HL]; omega))
      clear cX
      generalize hxe : X.getD k 0 = x at *
      clear hxe
      go_wp2_with fail
      refine (has45 (unhide HH) (unhide HS) (by omega) x hx).mono ?_
      rintro e w1 ⟨rfl, hb1⟩
      have hks1 : wr.heap.size ≤ w1.heap.size := hb1.size
      have hbel1 := hbel.trans (hb1.mono hbel.size)
      have hrow1 := hrow.kept (grownBy_of_below hb1) (by simp; exact Classical.em _)
      clear HR hrow hbel HH
      by_cases hin : inB L x = true
      · go_wp2
        go_roundw
        case rel =>
          have e1 : fr X L (k + 1) = fr X L k := by rw [unhide HF, if_pos hin]
          refine ⟨k + 1, by omega, by go_num, ?_, ?_, hbel1⟩
          · rw [e1]; exact hrow1
          · rw [e1]; exact hnil
        case measure => simp [intOf]; omega
      · have hin' : inB L x = false := by simpa using hin
        have e1 : Hid (fr X L (k + 1) = fr X L k ++ [x]) := hide (by rw [unhide HF, if_neg hin])
        by_cases hf0 : fr X L k = []
        · have hv := hnil hf0
          subst hv
          clear hnil
          rw [hf0] at hrow1 e1 hfl
          clear HF hin hrow1
          go_wp2_with (first
            | (at_make; refine wpList_make_own _ rfl _ _ 23 rfl w.heap.size 39 i0 (.int .u64 0) 1 Try.underlying23 hi hz0 hz1 .i64 .i64 _ (n - k) rfl rfl (by omega) (by rw [hz2]; omega) (by unfold maxLen; omega) (by omega) ?_; intro w2 hown2 hgrow2)
            | (at_builtin; refine wpList_append_own _ rfl _ _ 23 rfl w.heap.size 39 i0 (.int .u64 0) 1 8 Try.underlying23 hi hz0 hz1 hz2 rfl (by decide) _ _ _ rfl (hown2.alloc _) ⟨w2.heap.size, 0, none⟩ 1 1 [.int .u64 x] rfl rfl (cell_one_new _ _ _) (ints_oneCell .u64 [x]) (by unfold maxLen; omega) (by omega) (by have := hgrow2.size; simp; omega) ?_; intro v' w3 hown3 hgrow3 hnil3))
          have s2 := hgrow2.size
          have s3 := hgrow3.size
          simp at s3
          go_roundw
          case rel =>
            refine ⟨k + 1, by omega, by go_num, ?_, ?_, ?_⟩
            · rw [unhide e1]; exact hown3
            · rw [unhide e1]; intro h; simp at h
            · exact ((hbel1.grown hgrow2 (by omega) (fun j hj => by cases hj)).alloc (by omega) _).grown hgrow3 (by simp; omega) (fun j hj => by cases hj; exact Nat.le_trans hks hks1)
          case measure => simp [intOf]; omega
        · obtain ⟨g, cap, cur, hv, hg, _⟩ := (hrow1.2.resolve_left (fun h => hf0 (List.eq_nil_of_length_eq_zero h.2)))
          subst hv
          clear hnil HF hin
          go_wp2_with (at_builtin; refine wpList_append_own _ rfl _ _ 23 rfl w.heap.size 39 i0 (.int .u64 0) 1 8 Try.underlying23 hi hz0 hz1 hz2 rfl (by decide) _ _ _ rfl (hrow1.alloc _) ⟨w1.heap.size, 0, none⟩ 1 1 [.int .u64 x] rfl rfl (cell_one_new _ _ _) (ints_oneCell .u64 [x]) (by unfold maxLen; omega) (by omega) (by simp; omega) ?_; intro v' w3 hown3 hgrow3 hnil3)
          have s3 := hgrow3.size
          simp at s3
          go_roundw
          case rel =>
            refine ⟨k + 1, by omega, by go_num, ?_, ?_, ?_⟩
            · rw [unhide e1, vals_append, List.length_append]; exact hown3
            · rw [unhide e1]; intro h; simp at h
            · exact (hbel1.alloc (by omega) _).grown hgrow3 (by simp; omega) (fun j hj => by cases hj; exact hg)
          case measure => simp [intOf]; omega
    · have hkn : k = n := by omega
      subst hkn
      obtain ⟨wz, hwz⟩ : ∃ x, x = wr := ⟨_, rfl⟩
      subst hwz
      obtain ⟨g, cap, cur, hv, hg, hcur, _⟩ := (hrow.2.resolve_left (fun h => unhide HFR (List.eq_nil_of_length_eq_zero h.2)))
      subst hv
      have HH := (unhide H).below hbel
      have c1 := HH.first
      have c2 := HH.vals
      have f2 := HH.free
      have hvlt := HH.lt
      have hglt : g < wz.heap.size := (Array.getElem?_eq_some_iff.1 hcur).1
      have hwle := hbel.size
      have hmade := HH.made
      have hrow2 := hrow.kept ⟨hmade.2.os, hmade.2.tape, hmade.2.output, hmade.2.size, fun i hi hne => hmade.2.block i hi (fun e => hne (by rw [e]))⟩ (row := some vb) (.inr (by simp [Value.ownBlock]; omega))
      have hKP : Keep (· = vb) w ((wz.setCell ⟨vb, 102, none⟩ (.map (some wz.heap.size))).alloc (.map #[] 0)) := (Keep.of_below hbel).trans hmade.2 (fun i _ hi => hi)
      have hfl := fr_le X L k
      generalize hfe : fr X L k = Y at *
      have HFE := hide hfe
      have h2 := hide (And.intro hrow2 (And.intro hmade.1 hKP))
      clear HH hrow hbel hnil aX H HFR hfe hcur hmade hrow2 hKP
      generalize hyl : Y.length = y at *
      have HY := hide hyl
      clear hyl
      generalize hfl2 : F.length = f at *
      have HFL := hide hfl2
      clear hfl2
      have hgm : g ≠ wz.heap.size := by omega
      go_wp2
      go_loopw [58] (fun i wq => ∃ j : Nat, j ≤ f ∧ i = .int .i64 j ∧ Hid (wq.ownsRow w.heap.size 39 1 (.slice (some ⟨g, 0, none⟩) y cap) y (vals Y) ∧ Held wq vb fa fc F (some wz.heap.size) (F.take j) ∧ Keep (· = vb) w wq)) (fun i _ => f - (intOf i).toNat)
      case atStart => exact ⟨0, Nat.zero_le _, rfl, h2⟩
      case round =>
        clear h2 c1 c2 f2
        obtain ⟨j, hj, rfl, h4⟩ := hrel
        by_cases hlt2 : j < f
        · have hjF : j < F.length := by rw [unhide HFL]; exact hlt2
          obtain ⟨fb, foff, rfl, hfb, cF⟩ := ((unhide h4).2.1.row.at (Nat.le_of_lt (unhide h4).2.1.lt)) (by omega)
          have c1 := cF j hjF
          have c2 := (unhide h4).2.1.vals
          obtain ⟨w1, hrun, hH1, hgrow1⟩ := (unhide h4).2.1.put (x := F.getD j 0) (by simp; unfold maxLen; omega) (wF j)
          have h5 := hide (And.intro hH1 hgrow1)
          clear hH1 hgrow1 cF
          generalize hxe : F.getD j 0 = x at *
          have HX := hide hxe
          clear hxe
          go_wp2
          go_roundw
          case rel =>
            obtain ⟨hr4, hH4, hK4⟩ := unhide h4
            obtain ⟨hH5, hg5⟩ := unhide h5
            refine ⟨j + 1, by omega, by go_num, hide ⟨hr4.kept hg5 (.inr (by simp [Value.ownBlock]; omega)), ?_, ?_⟩⟩
            · rw [List.take_add_one, List.getElem?_eq_getElem hjF]
              rw [← unhide HX, List.getD, List.getElem?_eq_getElem hjF] at hH5
              exact hH5
            · exact hK4.trans (Keep.of_grown hg5) (fun i hi he => by cases he; omega)
          case measure => simp [intOf]; omega
        · have hjf : j = f := by omega
          subst hjf
          have h3 : Hid (_ ∧ Held wr vb fa fc F (some wz.heap.size) L ∧ _) := hide ⟨(unhide h4).1, by rw [unhide hLF]; have := (unhide h4).2.1; rw [List.take_of_length_le (by rw [unhide HFL]; omega)] at this; exact this, (unhide h4).2.2⟩
          clear h4
          go_wp2
          go_loopw [71] (fun i wr => ∃ j : Nat, j ≤ y ∧ i = .int .i64 j ∧ Hid (wr.ownsRow w.heap.size 39 1 (.slice (some ⟨g, 0, none⟩) y cap) y (vals Y) ∧ Held wr vb fa fc F (some wz.heap.size) (L ++ Y.take j) ∧ Keep (· = vb) w wr)) (fun i _ => y - (intOf i).toNat)
          case atStart => exact ⟨0, Nat.zero_le _, rfl, hide ⟨(unhide h3).1, by simpa using (unhide h3).2.1, (unhide h3).2.2⟩⟩
          case round =>
            clear h3
            obtain ⟨j, hj, rfl, h4⟩ := hrel
            by_cases hlt3 : j < y
            · have hjY : j < Y.length := by rw [unhide HY]; exact hlt3
              have c1 := ((unhide h4).1.cellAt j (by omega)).trans (vals_get Y j hjY)
              have c2 := (unhide h4).2.1.vals
              obtain ⟨w1, hrun, hH1, hgrow1⟩ := (unhide h4).2.1.put (x := Y.getD j 0) (by simp; unfold maxLen; rw [unhide hLF, unhide HFL]; omega) (wfr j)
              have h5 := hide (And.intro hH1 hgrow1)
              clear hH1 hgrow1
              generalize hxe : Y.getD j 0 = x at *
              have HX := hide hxe
              clear hxe
              go_wp2
              go_roundw
              case rel =>
                obtain ⟨hr4, hH4, hK4⟩ := unhide h4
                obtain ⟨hH5, hg5⟩ := unhide h5
                refine ⟨j + 1, by omega, by go_num, hide ⟨hr4.kept hg5 (.inr (by simp [Value.ownBlock]; omega)), ?_, ?_⟩⟩
                · rw [List.take_add_one, List.getElem?_eq_getElem hjY]
                  rw [← unhide HX, List.getD, List.getElem?_eq_getElem hjY, List.append_assoc] at hH5
                  exact hH5
                · exact hK4.trans (Keep.of_grown hg5) (fun i hi he => by cases he; omega)
              case measure => simp [intOf]; omega
            · have hjy : j = y := by omega
              subst hjy
              go_wp2
              go_ret
              obtain ⟨hr4, hH4, hK4⟩ := unhide h4
              rw [List.take_of_length_le (by rw [unhide HY]; omega)] at hH4
              exact ⟨g, cap, wz.heap.size, by rw [unhide HFE, unhide HY]; rfl, hwle, by rw [unhide HFE, unhide HY]; exact hr4, by rw [unhide HFE]; exact hH4, hK4⟩

end Go.Proofs.Qxb6603397a

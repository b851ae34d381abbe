/-
  The walk of FnHoldVoteTwoHandInsExact on lists that increase.
-/
import Derived.Test.Qxb6603397aWk7A
import Derived.Test.Qxb6603397aBox
import Derived.Deep.DeepCutAuto
namespace Go.Proofs.Qxb6603397a
open Go.RowKit Go.Maps

set_option maxRecDepth 100000 in
set_option maxHeartbeats 8000000 in
theorem walk7_main (a0 a1 : Option Addr) (n0 c0 n1 c1 : Nat) (A B : List Int) (sl sl2 ix se te : Int) (hd sr tr : List Value) (hY1 : Bytes hd) (hY2 : Bytes sr) (hY3 : Bytes tr) (fb fb2 : Bool) (w : World) (h0 : Sl w.heap.size w a0 n0 c0 A) (h1 : Sl w.heap.size w a1 n1 c1 B) (l0 : n0 ≤ 4096) (l1 : n1 ≤ 4096) (iA : incB A = true) (iB : incB B = true)
    (kl1 kl2 : Lit) (hkl1 : keyOf Try.prog 69 (.agg (keyL sl ix se te hd sr tr fb).toArray) = some kl1) (hkl2 : keyOf Try.prog 69 (.agg (keyL sl2 ix se te hd sr tr fb2).toArray) = some kl2)
    (same : Bool) (hs1 : same = true → sl = sl2 ∧ fb = fb2) (hs2 : same = false → ¬ (sl = sl2 ∧ fb = fb2)) (hs3 : same = false → kl1 ≠ kl2) :
    Calls Try.prog 7 #[.slice a0 n0 c0, .slice a1 n1 c1, .int .u64 sl, .int .u64 sl2, .int .u64 ix, .agg hd.toArray, .int .u64 se, .agg sr.toArray, .int .u64 te, .agg tr.toArray, .bool fb, .bool fb2] w fun e w' => e = .returned (.bool true) ∧ Below w.heap.size w w' := by
  have H := hide (Sizes.mk' (va := none) (vn := 0) (vc := 0) (sl := sl) (ix := ix) (se := se) (te := te) (arrs_of hY1 hY2 hY3))
  have HS := hide (And.intro h0 h1)
  have HI := hide (And.intro iA iB)
  have HK := hide (And.intro hkl1 hkl2)
  have HS1 := hide (And.intro hs1 (And.intro hs2 hs3))
  have HY := hide (And.intro hY1 (And.intro hY2 hY3))
  clear hY1 hY2 hY3 h0 h1 iA iB hkl1 hkl2 hs1 hs2 hs3
  go_enter Try.func7, Try.ntmps7
  go_wp2_with (first
    | (with_reducible (show wpList _ _ _ ({ dst := _, op := Op.load 48 (Operand.tmp 17), type := _, pos := _, after := _, guard := _ } :: _) _ _); refine wpList_load_row rfl 48 _ rfl w.heap.size rfl 48 hd.toArray (0, 0) _ (heap3_0 _ _ _ _) Try.underlying48 rfl (unhide H).s1 ?_; go_frame)
    | (with_reducible (show wpList _ _ _ ({ dst := _, op := Op.load 48 (Operand.tmp 19), type := _, pos := _, after := _, guard := _ } :: _) _ _); refine wpList_load_row rfl 48 _ rfl (w.heap.size + 1) rfl 48 sr.toArray (0, 0) _ (heap3_1 _ _ _ _) Try.underlying48 rfl (unhide H).s2 ?_; go_frame)
    | (with_reducible (show wpList _ _ _ ({ dst := _, op := Op.load 48 (Operand.tmp 21), type := _, pos := _, after := _, guard := _ } :: _) _ _); refine wpList_load_row rfl 48 _ rfl (w.heap.size + 1 + 1) rfl 48 tr.toArray (0, 0) _ (heap3_2 _ _ _ _) Try.underlying48 rfl (unhide H).s3 ?_; go_frame))
  have hb0 : Below w.heap.size w (((w.alloc (.cells hd.toArray 48)).alloc (.cells sr.toArray 48)).alloc (.cells tr.toArray 48)) := (((Below.refl _ _).alloc (Nat.le_refl _) _).alloc (by simp) _).alloc (by simp; omega) _
  have hbx0 : Box (((w.alloc (.cells hd.toArray 48)).alloc (.cells sr.toArray 48)).alloc (.cells tr.toArray 48)) w.heap.size hd sr tr := box_facts w hd sr tr
  refine (bytes31 a0 a1 n0 c0 n1 c1 sl sl2 ix se te hd.toArray sr.toArray tr.toArray fb fb2 _ (by unfold maxLen; omega) (by unfold maxLen; omega)).mono ?_
  rintro e x0 ⟨b, rfl, hbx, hb⟩
  have hb' := hb l0 l1
  clear hb
  subst hb'
  have B0 := hb0.trans (hbx.mono hb0.size)
  have X0 := hbx0.below hbx (by simp)
  have S0 : w.heap.size + 3 ≤ x0.heap.size := by have := hbx.size; simp at this; omega
  clear hb0 hbx hbx0
  go_wp2_with fail
  refine (inc19 ((unhide HS).1.below B0)).mono ?_
  rintro e x1 ⟨rfl, q1, hx1⟩
  have b1 : Below x0.heap.size x0 x1 := by rw [hx1]; exact below_of_drew q1
  clear hx1
  rw [(unhide HI).1]
  go_wp2_with fail
  refine (inc19 (((unhide HS).2.below B0).below (b1.mono (by omega)))).mono ?_
  rintro e x2 ⟨rfl, q2, hx2⟩
  have b2 : Below x0.heap.size x0 x2 := b1.trans (by rw [hx2]; exact (below_of_drew q2).mono b1.size)
  clear hx2 b1
  rw [(unhide HI).2]
  go_wp2_with fail
  refine (clone12 (((unhide HS).1.below B0).below (b2.mono (by omega))) (by have := b2.size; omega) (by omega)).mono ?_
  rintro e x3 ⟨p0, d0, rfl, _, o0, b3⟩
  have T0 := Sl.of_owns o0 (unhide HS).1.u64
  have B3 : Below x0.heap.size x0 x3 := b2.trans (b3.mono b2.size)
  go_wp2_with fail
  refine (clone12 (((unhide HS).2.below B0).below (B3.mono (by omega))) (by have := B3.size; omega) (by omega)).mono ?_
  rintro e x4 ⟨p1, d1, rfl, _, o1, b4⟩
  have T1 := Sl.of_owns o1 (unhide HS).2.u64
  have T0' := (T0.below b4).mono b4.size
  have B4 := B3.trans (b4.mono B3.size)
  have Q4 : Hid (B8 w x4 x4.heap.size hd sr tr p0 n0 d0 A p1 n1 d1 B) := hide ⟨X0.below B4 (by omega), T0', T1, B0.trans (B4.mono B0.size), by have := B4.size; omega⟩
  clear T0 T0' T1 o0 o1 b2 b3 b4 B3 B4 X0 B0
  have S4 : w.heap.size + 3 ≤ x4.heap.size := (unhide Q4).lo
  go_upto_region 11 with fail
  go_cut [25] (fun s25 wc => s25 = .bool same ∧ x4 = wc)
  case first =>
    as_aux_lemma =>
      have hsame : same = (decide (sl = sl2) && (fb == fb2)) := by
        cases hsm : same with
        | true => obtain ⟨h1, h2⟩ := (unhide HS1).1 hsm; simp [h1, h2]
        | false =>
          have h1 := (unhide HS1).2.1 hsm
          cases hd1 : decide (sl = sl2) with
          | false => rfl
          | true =>
            cases hd2 : (fb == fb2) with
            | false => rfl
            | true => exact absurd ⟨of_decide_eq_true hd1, by simpa using hd2⟩ h1
      by_cases hsl : sl = sl2
      · go_wp2
        go_meet
        case rel => exact ⟨by rw [hsame]; simp [hsl], rfl⟩
      · go_wp2
        go_meet
        case rel => exact ⟨by rw [hsame]; simp [hsl], rfl⟩
  obtain ⟨hc1, hc2⟩ := hcut
  subst hc1 hc2
  go_upto_region 13 with fail
  go_cut [92] (fun s92 wc => s92 = .bool (same && decide (0 < n0)) ∧ x4 = wc)
  case first =>
    as_aux_lemma =>
      cases same with
      | true =>
        go_wp2
        go_meet
        case rel => exact ⟨by simp, rfl⟩
      | false =>
        go_wp2
        go_meet
        case rel => exact ⟨by simp, rfl⟩
  obtain ⟨hc1, hc2⟩ := hcut
  subst hc1 hc2
  obtain ⟨i0, hi, hz0, hz1, hz2⟩ := info_parts Try.info39
  go_upto_if 92 with fail
  go_cut [26] (fun s26 wc => ∃ q nw cw, s26 = .slice q nw cw ∧ nw = (wantL same A B).length ∧ nw ≤ 4096 ∧ Hid (Sl wc.heap.size wc q nw cw (wantL same A B) ∧ Below x4.heap.size x4 wc))
  case first =>
    as_aux_lemma =>
      have hlA := (unhide HS).1.len
      have hlB := (unhide HS).2.len
      cases hcc : (same && decide (0 < n0)) with
      | false =>
        have hw : Hid (wantL same A B = B) := hide (if_neg (fun h => by
          obtain ⟨h1, h2⟩ := h
          have : 0 < n0 := by rw [← hlA]; exact List.length_pos_iff.2 h2
          simp [h1] at hcc
          omega))
        clear hcc
        go_wp2_with fail
        refine (clone12 (unhide Q4).s1 (Nat.le_refl _) (by omega)).mono ?_
        rintro e y ⟨q, cw, rfl, _, oq, bq⟩
        have HQ := hide (And.intro (Sl.of_owns oq (unhide HS).2.u64) bq)
        clear oq bq
        go_wp2
        go_meet
        case rel => exact ⟨q, n1, cw, rfl, by rw [unhide hw, hlB], l1, by rw [unhide hw]; exact HQ⟩
      | true =>
        have hw : Hid (wantL same A B = news B A) := hide (if_pos (by
          simp at hcc
          exact ⟨hcc.1, fun h => by rw [h] at hlA; simp at hlA; omega⟩))
        clear hcc
        have hx4 := Nat.le_refl x4.heap.size
        go_wp2_with fail
        go_loopw [26, 27] (fun v i wr => ∃ k : Nat, k ≤ n1 ∧ i = .int .i64 k ∧ wr.ownsRow x4.heap.size 39 1 v (fr B A k).length (vals (fr B A k)) ∧ x4.heap.size ≤ wr.heap.size ∧ Hid (Below x4.heap.size x4 wr)) (fun _ i _ => n1 - (intOf i).toNat)
        case atStart => exact ⟨0, Nat.zero_le _, rfl, World.ownsRow_nil _ _ _ _, Nat.le_refl _, hide (Below.refl _ _)⟩
        case round =>
          obtain ⟨k, hk, rfl, hrow, hB, HST⟩ := hrel
          have HQ := hide ((unhide Q4).below (unhide HST))
          by_cases hlt : k < n1
          · obtain ⟨rb, roff, ra, _, cR⟩ := (unhide HQ).s1.at hB (by omega)
            have c1 := cR k hlt
            have hxw := (unhide HQ).s1.wf_at k
            have hfl := fr_le B A k
            have HFS := hide (fr_succ B A k (by omega))
            subst ra
            clear cR
            generalize B.getD k 0 = y at *
            go_wp2_with fail
            refine (con21 (unhide HQ).s0 y).mono ?_
            rintro e z1 ⟨rfl, rfl⟩
            rename World => wr
            cases hf : inB A y with
            | true =>
              have HCF := hide hf
              clear hf
              go_wp2
              go_roundw
              case rel =>
                have e1 : fr B A (k + 1) = fr B A k := by rw [unhide HFS, unhide HCF]; rfl
                exact ⟨k + 1, by omega, by go_num, by rw [e1]; exact hrow, hB, HST⟩
              case measure => simp [intOf]; omega
            | false =>
              have HCF := hide hf
              clear hf
              have HE : Hid (fr B A (k + 1) = fr B A k ++ [y]) := hide (by rw [unhide HFS]; simp [unhide HCF])
              go_wp2_with (at_builtin; refine wpList_append_own _ rfl _ _ 23 rfl x4.heap.size 39 i0 (.int .u64 0) 1 8 Try.underlying23 hi hz0 hz1 hz2 rfl (by decide) _ _ _ rfl (hrow.alloc _) ⟨wr.heap.size, 0, none⟩ 1 1 [.int .u64 y] rfl rfl (cell_one_new _ _ _) (ints_oneCell .u64 [y]) (by unfold maxLen; omega) (by omega) (by simp; omega) ?_; intro v' w3 hown3 hgrow3 hnil3)
              have s3 := hgrow3.size
              simp at s3
              go_roundw
              case rel =>
                have bb : Below x4.heap.size wr w3 := ((Below.refl _ _).alloc hB _).grown hgrow3 (by simp; omega) (fun j hj => (hrow.lt j hj).1)
                refine ⟨k + 1, by omega, by go_num, ?_, by omega, hide ((unhide HST).trans bb)⟩
                rw [unhide HE, vals_append, List.length_append]
                exact hown3
              case measure => simp [intOf]; omega
          · have hkn : n1 = k := by omega
            subst hkn
            have en : fr B A n1 = news B A := by unfold news; rw [hlB]
            rw [en] at hrow
            clear en hk
            obtain ⟨wa, wc', hve⟩ := ownsRow_shape hrow
            subst hve
            have hnb := news_le B A
            go_wp2_with fail
            go_meet
            case rel => exact ⟨wa, _, wc', rfl, by rw [unhide hw], by omega, hide ⟨by rw [unhide hw]; exact Sl.of_owns hrow (fun x hx => by rw [news_eq] at hx; exact (unhide HS).2.u64 x (List.mem_filter.1 hx).1), unhide HST⟩⟩
  obtain ⟨q, nw, cw, hc1, hnw, hnl, HW⟩ := hcut
  subst hc1
  obtain ⟨x5, hx5⟩ : ∃ x5, x5 = wc := ⟨_, rfl⟩
  subst hx5
  have HNW := hide hnw
  clear hnw
  have Q5 := hide (((unhide Q4).below (unhide HW).2).mono (unhide HW).2.size)
  have S5 : w.heap.size + 3 ≤ x5.heap.size := (unhide Q5).lo
  have W5 := hide (unhide HW).1
  clear HW Q4 S4
  go_wp2_with fail
  refine (clone12 (unhide Q5).s0 (Nat.le_refl _) (by omega)).mono ?_
  rintro e x6 ⟨pa, ca, rfl, _, oa, b6⟩
  go_wp2_with fail
  refine (clone12 ((unhide Q5).s1.below b6) b6.size (by omega)).mono ?_
  rintro e x7 ⟨pb, cb, rfl, _, ob, b7⟩
  go_wp2_with fail
  refine (newHolding32 x7).mono ?_
  rintro e x8 ⟨rfl, hH, b8, hs8⟩
  have z6 := b6.size
  have z7 := b7.size
  have z8 := b8.size
  have b58 : Below x5.heap.size x5 x8 := b6.trans ((b7.mono z6).trans (b8.mono (by omega)))
  have Q8 := hide ((unhide Q5).below b58)
  have W8 := hide ((unhide W5).below b58)
  have A8 := hide ((((Sl.of_owns oa (unhide HS).1.u64).below b7).mono z7).below b8)
  have C8 := hide ((Sl.of_owns ob (unhide HS).2.u64).below b8)
  have hkA : Keep (fun _ => False) x6 x8 := Keep.of_below (b7.trans (b8.mono z7))
  have hkB : Keep (fun _ => False) x7 x8 := Keep.of_below b8
  have R1 := hide ((RowOk.of_owns (hi := x7.heap.size) oa z7).keep hkA (fun _ _ _ h => h))
  have R2 : Hid (RowOk x8 pb n1 x5.heap.size x7.heap.size) := hide (by
    rcases (RowOk.of_owns (hi := x7.heap.size) ob (Nat.le_refl _)).keep hkB (fun _ _ _ h => h) with h | ⟨g, h1, h2, h3⟩
    · exact .inl h
    · exact .inr ⟨g, h1, by omega, h3⟩)
  have H8 := hide hH
  have N8 := hide b58.size
  clear oa ob b6 b7 b8 hkA hkB hH b58 Q5 W5
  have X8 := hide (unhide Q8).box
  have zb : x5.heap.size ≤ x7.heap.size := by omega
  have zc : x7.heap.size ≤ x8.heap.size := z8
  clear z6 z7 z8
  go_wp2_with (with_reducible (show wpList _ _ _ ({ dst := _, op := Op.load 48 (Operand.tmp 17), type := _, pos := _, after := _, guard := _ } :: _) _ _); refine Halt.out ?_)
  refine Halt.mk ?_
  refine wpList_load_mid rfl 48 _ rfl w.heap.size 0 rfl hd _ (unhide X8).1 Try.underlying48 rfl (by rw [i48, (unhide H).arr.l1]) ?_
  go_frame
  go_wp2_with (with_reducible (show wpList _ _ _ ({ dst := _, op := Op.load 48 (Operand.tmp 19), type := _, pos := _, after := _, guard := _ } :: _) _ _); refine Halt.out ?_)
  refine Halt.mk ?_
  refine wpList_load_mid rfl 48 _ rfl (w.heap.size + 1) 0 rfl sr _ (unhide X8).2.1 Try.underlying48 rfl (by rw [i48, (unhide H).arr.l2]) ?_
  go_frame
  go_wp2_with (with_reducible (show wpList _ _ _ ({ dst := _, op := Op.load 48 (Operand.tmp 21), type := _, pos := _, after := _, guard := _ } :: _) _ _); refine Halt.out ?_)
  refine Halt.mk ?_
  refine wpList_load_mid rfl 48 _ rfl (w.heap.size + 1 + 1) 0 rfl tr _ (unhide X8).2.2 Try.underlying48 rfl (by rw [i48, (unhide H).arr.l3]) ?_
  go_frame
  go_wp2_with fail
  refine (first33 sl ix se te hd sr tr fb (unhide H).arr (unhide HK).1 (unhide H8) (by omega) zc (unhide A8) zc (by omega)).mono ?_
  rintro e x9 ⟨rfl, V9, b9⟩
  have V9 := hide V9
  have Q9 := hide ((unhide Q8).below (b9.mono zb))
  have W9 := hide ((unhide W8).below (b9.mono zb))
  have C9 := hide ((unhide C8).below b9)
  have X9 := hide (unhide Q9).box
  have zd : x7.heap.size ≤ x9.heap.size := Nat.le_trans zc b9.size
  have R19 := hide ((unhide R1).keep (S := fun i => ¬ i < x7.heap.size) ⟨b9.os, b9.tape, b9.output, b9.size, fun k _ h => b9.block k (Decidable.not_not.1 h)⟩ (fun i _ h2 h3 => h3 h2))
  have R29 := hide ((unhide R2).keep (S := fun i => ¬ i < x7.heap.size) ⟨b9.os, b9.tape, b9.output, b9.size, fun k _ h => b9.block k (Decidable.not_not.1 h)⟩ (fun i _ h2 h3 => h3 h2))
  clear Q8 W8 A8 C8 R1 R2 H8 N8 X8 b9
  go_wp2_with (with_reducible (show wpList _ _ _ ({ dst := _, op := Op.load 48 (Operand.tmp 17), type := _, pos := _, after := _, guard := _ } :: _) _ _); refine Halt.out ?_)
  refine Halt.mk ?_
  refine wpList_load_mid rfl 48 _ rfl w.heap.size 0 rfl hd _ (unhide X9).1 Try.underlying48 rfl (by rw [i48, (unhide H).arr.l1]) ?_
  go_frame
  go_wp2_with (with_reducible (show wpList _ _ _ ({ dst := _, op := Op.load 48 (Operand.tmp 19), type := _, pos := _, after := _, guard := _ } :: _) _ _); refine Halt.out ?_)
  refine Halt.mk ?_
  refine wpList_load_mid rfl 48 _ rfl (w.heap.size + 1) 0 rfl sr _ (unhide X9).2.1 Try.underlying48 rfl (by rw [i48, (unhide H).arr.l2]) ?_
  go_frame
  go_wp2_with (with_reducible (show wpList _ _ _ ({ dst := _, op := Op.load 48 (Operand.tmp 21), type := _, pos := _, after := _, guard := _ } :: _) _ _); refine Halt.out ?_)
  refine Halt.mk ?_
  refine wpList_load_mid rfl 48 _ rfl (w.heap.size + 1 + 1) 0 rfl tr _ (unhide X9).2.2 Try.underlying48 rfl (by rw [i48, (unhide H).arr.l3]) ?_
  go_frame
  go_wp2_with fail
  refine (second33 sl sl2 ix se te hd sr tr fb fb2 (unhide H).arr (unhide HK).1 (unhide HK).2 (unhide V9) (by omega) zd (unhide HI).1 (by have := (unhide HS).1.len; omega) same (unhide HS1).1 (unhide HS1).2.2 (unhide C9) zd (by omega)).mono ?_
  rintro e x10 ⟨rfl, V10, b10⟩
  have V10 := hide V10
  have Q10 := hide ((unhide Q9).below (b10.mono zb))
  have W10 := hide ((unhide W9).below (b10.mono zb))
  have ze : x7.heap.size ≤ x10.heap.size := Nat.le_trans zd b10.size
  have R110 := hide ((unhide R19).keep (S := fun i => ¬ i < x7.heap.size) ⟨b10.os, b10.tape, b10.output, b10.size, fun k _ h => b10.block k (Decidable.not_not.1 h)⟩ (fun i _ h2 h3 => h3 h2))
  have R210 := hide ((unhide R29).keep (S := fun i => ¬ i < x7.heap.size) ⟨b10.os, b10.tape, b10.output, b10.size, fun k _ h => b10.block k (Decidable.not_not.1 h)⟩ (fun i _ h2 h3 => h3 h2))
  clear Q9 W9 C9 R19 R29 V9 X9 b10 zc zd
  go_wp2_with fail
  go_loopw [33] (fun i wr => ∃ k : Nat, k ≤ n0 ∧ i = .int .i64 k ∧ Hid (Keep (fun i => x5.heap.size ≤ i ∧ i < x7.heap.size) x10 wr ∧ RowOk wr pa n0 x5.heap.size x7.heap.size ∧ RowOk wr pb n1 x5.heap.size x7.heap.size)) (fun i _ => n0 - (intOf i).toNat)
  case atStart => exact ⟨0, Nat.zero_le _, rfl, hide ⟨Keep.of_below (Below.refl _ _), unhide R110, unhide R210⟩⟩
  case round =>
    obtain ⟨k, hk, rfl, HR⟩ := hrel
    by_cases hlt : k < n0
    · obtain ⟨g, ha, hg1, hg2, hc⟩ := (unhide HR).2.1.resolve_left (by omega)
      subst ha
      obtain ⟨⟨x, hx⟩, hf⟩ := hc k hlt
      have HG := hide (And.intro hg1 hg2)
      clear hc hg1 hg2
      go_wp2
      go_roundw
      case rel => exact ⟨k + 1, by omega, by go_num, hide ⟨(unhide HR).1.trans (Keep.setCell _ _ _) (fun i _ h => by cases h; exact unhide HG), (unhide HR).2.1.set _ _, (unhide HR).2.2.set _ _⟩⟩
      case measure => simp [intOf]; omega
    · clear hk
      obtain ⟨x11, hx11⟩ : ∃ x, x = wr := ⟨_, rfl⟩
      subst hx11
      have R1 := hide (unhide HR).2.1
      have HR0 := HR
      clear HR
      go_wp2_with fail
      go_loopw [34] (fun i wr => ∃ k : Nat, k ≤ n1 ∧ i = .int .i64 k ∧ Hid (Keep (fun i => x5.heap.size ≤ i ∧ i < x7.heap.size) x10 wr ∧ RowOk wr pb n1 x5.heap.size x7.heap.size)) (fun i _ => n1 - (intOf i).toNat)
      case atStart => exact ⟨0, Nat.zero_le _, rfl, hide ⟨(unhide HR0).1, (unhide HR0).2.2⟩⟩
      case round =>
        obtain ⟨k2, hk2, rfl, HR⟩ := hrel
        by_cases hlt2 : k2 < n1
        · obtain ⟨g, ha, hg1, hg2, hc⟩ := (unhide HR).2.resolve_left (by omega)
          subst ha
          obtain ⟨⟨x, hx⟩, hf⟩ := hc k2 hlt2
          have HG := hide (And.intro hg1 hg2)
          clear hc hg1 hg2
          go_wp2
          go_roundw
          case rel => exact ⟨k2 + 1, by omega, by go_num, hide ⟨(unhide HR).1.trans (Keep.setCell _ _ _) (fun i _ h => by cases h; exact unhide HG), (unhide HR).2.set _ _⟩⟩
          case measure => simp [intOf]; omega
        · clear hk2
          go_upto_region 33 with fail
          obtain ⟨x12, hx12⟩ : ∃ x, x = wr := ⟨_, rfl⟩
          subst hx12
          have hb12 : Below x5.heap.size x10 x12 := (unhide HR).1.below (by omega) (fun k h => h.1)
          have V12 := hide ((unhide V10).keep (unhide HR).1 (fun i h => h.2) (by omega))
          have Q12 := hide ((unhide Q10).below hb12)
          have W12 := hide ((unhide W10).below hb12)
          have zf : x5.heap.size ≤ x12.heap.size := Nat.le_trans (Nat.le_trans zb ze) (unhide HR).1.size
          have hlA := (unhide HS).1.len
          have LA := hide hlA
          rw [hlA]
          rw [← unhide HNW]
          clear hlA R1 HR0 HR V10 Q10 W10 R110 R210 hb12 ze hlt hlt2
          cases unhide V12 with
          | nothing hA hW hold size =>
            as_aux_lemma =>
              have HDx12 := hide hold
              have zx12 := zf
              have Qx12 := Q12
              have Wx12 := W12
              clear Q12 W12
              have hSZ := size
              have HSZ := hide size
              have ha : n0 = 0 := by rw [← unhide LA, hA]; rfl
              have hwp : nw = 0 := by rw [unhide HNW, hW]; rfl
              subst ha
              subst hwp
              clear hA hW hold size hSZ
              go_wp2_with fail
              refine (items35 (unhide HDx12)).mono ?_
              rintro e x12 ⟨rfl, rfl⟩
              simp only [List.length_nil]
              go_wp2_with fail
              refine (itemsNil36 (unhide HDx12).c0).mono ?_
              rintro e x12 ⟨rfl, rfl⟩
              go_wp2_with fail
              refine (voters37 (unhide HDx12)).mono ?_
              rintro e x12 ⟨rfl, rfl⟩
              rw [unhide HSZ]
              go_wp2_with fail
              refine (blocks39 (unhide HDx12)).mono ?_
              rintro e x12 ⟨rfl, rfl⟩
              go_wp2_with fail
              go_ret
              exact ⟨rfl, (unhide Qx12).bel⟩
          | first hA hW hold it size =>
            as_aux_lemma =>
              have HDx12 := hide hold
              have ITax12 := hide it
              clear it
              have zx12 := zf
              have Qx12 := Q12
              have Wx12 := W12
              clear Q12 W12
              have hSZ := size
              have HSZ := hide size
              have ha : 0 < n0 := by rw [← unhide LA]; exact List.length_pos_iff.2 hA
              have hwp : nw = 0 := by rw [unhide HNW, hW]; rfl
              subst hwp
              clear hA hW hold size hSZ
              go_wp2_with (with_reducible (show wpList _ _ _ ({ dst := _, op := Op.load 48 (Operand.tmp 17), type := _, pos := _, after := _, guard := _ } :: _) _ _); refine Halt.out ?_)
              refine Halt.mk ?_
              refine wpList_load_mid rfl 48 _ rfl w.heap.size 0 rfl hd _ (unhide Qx12).box.1 Try.underlying48 rfl (by rw [i48, (unhide H).arr.l1]) ?_
              go_frame
              go_wp2_with (with_reducible (show wpList _ _ _ ({ dst := _, op := Op.load 48 (Operand.tmp 19), type := _, pos := _, after := _, guard := _ } :: _) _ _); refine Halt.out ?_)
              refine Halt.mk ?_
              refine wpList_load_mid rfl 48 _ rfl (w.heap.size + 1) 0 rfl sr _ (unhide Qx12).box.2.1 Try.underlying48 rfl (by rw [i48, (unhide H).arr.l2]) ?_
              go_frame
              go_wp2_with (with_reducible (show wpList _ _ _ ({ dst := _, op := Op.load 48 (Operand.tmp 21), type := _, pos := _, after := _, guard := _ } :: _) _ _); refine Halt.out ?_)
              refine Halt.mk ?_
              refine wpList_load_mid rfl 48 _ rfl (w.heap.size + 1 + 1) 0 rfl tr _ (unhide Qx12).box.2.2 Try.underlying48 rfl (by rw [i48, (unhide H).arr.l3]) ?_
              go_frame
              go_wp2_with fail
              obtain ⟨g0, cc0, I0⟩ := ItemOk.of (k := 0) (unhide HDx12) rfl (unhide ITax12) (unhide HK).1
              refine (item34 I0 (unhide HY).1 (unhide HY).2.1 (unhide HY).2.2 ((unhide Qx12).s0.mono zx12)).mono ?_
              rintro e x13 ⟨rfl, bx13⟩
              clear I0
              have Qx13 := hide ((unhide Qx12).below (bx13.mono zx12))
              have Wx13 := hide ((unhide Wx12).below (bx13.mono zx12))
              have HDx13 := hide ((unhide HDx12).below bx13)
              have zx13 : x5.heap.size ≤ x13.heap.size := Nat.le_trans zx12 bx13.size
              have ITax13 := hide ((unhide ITax12).keep (S := fun _ => False) (Keep.of_below bx13) (fun _ h => h.elim))
              clear bx13 Qx12 Wx12 HDx12 ITax12
              go_wp2_with fail
              refine (items35 (unhide HDx13)).mono ?_
              rintro e x13 ⟨rfl, rfl⟩
              simp only [List.length_cons, List.length_nil]
              go_wp2_with fail
              refine (voters37 (unhide HDx13)).mono ?_
              rintro e x13 ⟨rfl, rfl⟩
              rw [unhide HSZ]
              go_wp2_with fail
              refine (blocks39 (unhide HDx13)).mono ?_
              rintro e x13 ⟨rfl, rfl⟩
              go_wp2_with fail
              go_ret
              exact ⟨rfl, (unhide Qx13).bel⟩
          | second hA hW hold it size =>
            as_aux_lemma =>
              have HDx12 := hide hold
              have ITbx12 := hide it
              clear it
              have zx12 := zf
              have Qx12 := Q12
              have Wx12 := W12
              clear Q12 W12
              have hSZ := size
              have HSZ := hide size
              have ha : n0 = 0 := by rw [← unhide LA, hA]; rfl
              have hwp : 0 < nw := by rw [unhide HNW]; exact List.length_pos_iff.2 hW
              subst ha
              clear hA hW hold size hSZ
              go_wp2_with (with_reducible (show wpList _ _ _ ({ dst := _, op := Op.load 48 (Operand.tmp 17), type := _, pos := _, after := _, guard := _ } :: _) _ _); refine Halt.out ?_)
              refine Halt.mk ?_
              refine wpList_load_mid rfl 48 _ rfl w.heap.size 0 rfl hd _ (unhide Qx12).box.1 Try.underlying48 rfl (by rw [i48, (unhide H).arr.l1]) ?_
              go_frame
              go_wp2_with (with_reducible (show wpList _ _ _ ({ dst := _, op := Op.load 48 (Operand.tmp 19), type := _, pos := _, after := _, guard := _ } :: _) _ _); refine Halt.out ?_)
              refine Halt.mk ?_
              refine wpList_load_mid rfl 48 _ rfl (w.heap.size + 1) 0 rfl sr _ (unhide Qx12).box.2.1 Try.underlying48 rfl (by rw [i48, (unhide H).arr.l2]) ?_
              go_frame
              go_wp2_with (with_reducible (show wpList _ _ _ ({ dst := _, op := Op.load 48 (Operand.tmp 21), type := _, pos := _, after := _, guard := _ } :: _) _ _); refine Halt.out ?_)
              refine Halt.mk ?_
              refine wpList_load_mid rfl 48 _ rfl (w.heap.size + 1 + 1) 0 rfl tr _ (unhide Qx12).box.2.2 Try.underlying48 rfl (by rw [i48, (unhide H).arr.l3]) ?_
              go_frame
              go_wp2_with fail
              obtain ⟨g0, cc0, I0⟩ := ItemOk.of (k := 0) (unhide HDx12) rfl (unhide ITbx12) (unhide HK).2
              refine (item34 I0 (unhide HY).1 (unhide HY).2.1 (unhide HY).2.2 ((unhide Wx12).mono zx12)).mono ?_
              rintro e x14 ⟨rfl, bx14⟩
              clear I0
              have Qx14 := hide ((unhide Qx12).below (bx14.mono zx12))
              have Wx14 := hide ((unhide Wx12).below (bx14.mono zx12))
              have HDx14 := hide ((unhide HDx12).below bx14)
              have zx14 : x5.heap.size ≤ x14.heap.size := Nat.le_trans zx12 bx14.size
              have ITbx14 := hide ((unhide ITbx12).keep (S := fun _ => False) (Keep.of_below bx14) (fun _ h => h.elim))
              clear bx14 Qx12 Wx12 HDx12 ITbx12
              go_wp2_with fail
              refine (items35 (unhide HDx14)).mono ?_
              rintro e x14 ⟨rfl, rfl⟩
              simp only [List.length_cons, List.length_nil]
              go_wp2_with fail
              refine (voters37 (unhide HDx14)).mono ?_
              rintro e x14 ⟨rfl, rfl⟩
              rw [unhide HSZ]
              go_wp2_with fail
              refine (blocks39 (unhide HDx14)).mono ?_
              rintro e x14 ⟨rfl, rfl⟩
              go_wp2_with fail
              go_ret
              exact ⟨rfl, (unhide Qx14).bel⟩
          | bothSame hA hW hs hold it1 it2 size =>
            as_aux_lemma =>
              have HDx12 := hide hold
              have ITax12 := hide it1
              have ITbx12 := hide it2
              clear it1 it2
              have zx12 := zf
              have Qx12 := Q12
              have Wx12 := W12
              clear Q12 W12
              have hSZ := size
              have HSZ := hide size
              have HSM := hide hs
              clear hs
              have ha : 0 < n0 := by rw [← unhide LA]; exact List.length_pos_iff.2 hA
              have hwp : 0 < nw := by rw [unhide HNW]; exact List.length_pos_iff.2 hW
              clear hA hW hold size hSZ
              go_wp2_with (with_reducible (show wpList _ _ _ ({ dst := _, op := Op.load 48 (Operand.tmp 17), type := _, pos := _, after := _, guard := _ } :: _) _ _); refine Halt.out ?_)
              refine Halt.mk ?_
              refine wpList_load_mid rfl 48 _ rfl w.heap.size 0 rfl hd _ (unhide Qx12).box.1 Try.underlying48 rfl (by rw [i48, (unhide H).arr.l1]) ?_
              go_frame
              go_wp2_with (with_reducible (show wpList _ _ _ ({ dst := _, op := Op.load 48 (Operand.tmp 19), type := _, pos := _, after := _, guard := _ } :: _) _ _); refine Halt.out ?_)
              refine Halt.mk ?_
              refine wpList_load_mid rfl 48 _ rfl (w.heap.size + 1) 0 rfl sr _ (unhide Qx12).box.2.1 Try.underlying48 rfl (by rw [i48, (unhide H).arr.l2]) ?_
              go_frame
              go_wp2_with (with_reducible (show wpList _ _ _ ({ dst := _, op := Op.load 48 (Operand.tmp 21), type := _, pos := _, after := _, guard := _ } :: _) _ _); refine Halt.out ?_)
              refine Halt.mk ?_
              refine wpList_load_mid rfl 48 _ rfl (w.heap.size + 1 + 1) 0 rfl tr _ (unhide Qx12).box.2.2 Try.underlying48 rfl (by rw [i48, (unhide H).arr.l3]) ?_
              go_frame
              go_wp2_with fail
              obtain ⟨g0, cc0, I0⟩ := ItemOk.of (k := 0) (unhide HDx12) rfl (unhide ITax12) (unhide HK).1
              refine (item34 I0 (unhide HY).1 (unhide HY).2.1 (unhide HY).2.2 ((unhide Qx12).s0.mono zx12)).mono ?_
              rintro e x13 ⟨rfl, bx13⟩
              clear I0
              have Qx13 := hide ((unhide Qx12).below (bx13.mono zx12))
              have Wx13 := hide ((unhide Wx12).below (bx13.mono zx12))
              have HDx13 := hide ((unhide HDx12).below bx13)
              have zx13 : x5.heap.size ≤ x13.heap.size := Nat.le_trans zx12 bx13.size
              have ITax13 := hide ((unhide ITax12).keep (S := fun _ => False) (Keep.of_below bx13) (fun _ h => h.elim))
              have ITbx13 := hide ((unhide ITbx12).keep (S := fun _ => False) (Keep.of_below bx13) (fun _ h => h.elim))
              clear bx13 Qx12 Wx12 HDx12 ITax12 ITbx12
              go_wp2_with (with_reducible (show wpList _ _ _ ({ dst := _, op := Op.load 48 (Operand.tmp 17), type := _, pos := _, after := _, guard := _ } :: _) _ _); refine Halt.out ?_)
              refine Halt.mk ?_
              refine wpList_load_mid rfl 48 _ rfl w.heap.size 0 rfl hd _ (unhide Qx13).box.1 Try.underlying48 rfl (by rw [i48, (unhide H).arr.l1]) ?_
              go_frame
              go_wp2_with (with_reducible (show wpList _ _ _ ({ dst := _, op := Op.load 48 (Operand.tmp 19), type := _, pos := _, after := _, guard := _ } :: _) _ _); refine Halt.out ?_)
              refine Halt.mk ?_
              refine wpList_load_mid rfl 48 _ rfl (w.heap.size + 1) 0 rfl sr _ (unhide Qx13).box.2.1 Try.underlying48 rfl (by rw [i48, (unhide H).arr.l2]) ?_
              go_frame
              go_wp2_with (with_reducible (show wpList _ _ _ ({ dst := _, op := Op.load 48 (Operand.tmp 21), type := _, pos := _, after := _, guard := _ } :: _) _ _); refine Halt.out ?_)
              refine Halt.mk ?_
              refine wpList_load_mid rfl 48 _ rfl (w.heap.size + 1 + 1) 0 rfl tr _ (unhide Qx13).box.2.2 Try.underlying48 rfl (by rw [i48, (unhide H).arr.l3]) ?_
              go_frame
              go_wp2_with fail
              obtain ⟨g1, cc1, I1⟩ := ItemOk.of (k := 1) (unhide HDx13) rfl (unhide ITbx13) (unhide HK).2
              refine (item34 I1 (unhide HY).1 (unhide HY).2.1 (unhide HY).2.2 ((unhide Wx13).mono zx13)).mono ?_
              rintro e x14 ⟨rfl, bx14⟩
              clear I1
              have Qx14 := hide ((unhide Qx13).below (bx14.mono zx13))
              have Wx14 := hide ((unhide Wx13).below (bx14.mono zx13))
              have HDx14 := hide ((unhide HDx13).below bx14)
              have zx14 : x5.heap.size ≤ x14.heap.size := Nat.le_trans zx13 bx14.size
              have ITax14 := hide ((unhide ITax13).keep (S := fun _ => False) (Keep.of_below bx14) (fun _ h => h.elim))
              have ITbx14 := hide ((unhide ITbx13).keep (S := fun _ => False) (Keep.of_below bx14) (fun _ h => h.elim))
              clear bx14 Qx13 Wx13 HDx13 ITax13 ITbx13
              go_wp2_with fail
              refine (items35 (unhide HDx14)).mono ?_
              rintro e x14 ⟨rfl, rfl⟩
              simp only [List.length_cons, List.length_nil]
              rw [unhide HSM]
              go_wp2_with fail
              refine (voters37 (unhide HDx14)).mono ?_
              rintro e x14 ⟨rfl, rfl⟩
              rw [unhide HSZ]
              go_wp2_with fail
              obtain ⟨ga0, ca0, J0⟩ := (unhide HDx14).item (k := 0) rfl
              obtain ⟨ga1, ca1, J1⟩ := (unhide HDx14).item (k := 1) rfl
              obtain ⟨rfl, rfl⟩ := ItemAt.same J0 J1
              refine (share38_same J0 J1).mono ?_
              rintro e x15 ⟨rfl, qs, hqs⟩
              have bx15 : Below x14.heap.size x14 x15 := by rw [hqs]; exact below_of_drew qs
              clear hqs J0 J1
              have Qx15 := hide ((unhide Qx14).below (bx15.mono zx14))
              have Wx15 := hide ((unhide Wx14).below (bx15.mono zx14))
              have HDx15 := hide ((unhide HDx14).below bx15)
              have zx15 : x5.heap.size ≤ x15.heap.size := Nat.le_trans zx14 bx15.size
              have ITax15 := hide ((unhide ITax14).keep (S := fun _ => False) (Keep.of_below bx15) (fun _ h => h.elim))
              have ITbx15 := hide ((unhide ITbx14).keep (S := fun _ => False) (Keep.of_below bx15) (fun _ h => h.elim))
              clear bx15 Qx14 Wx14 HDx14 ITax14 ITbx14
              go_wp2_with fail
              refine (blocks39 (unhide HDx15)).mono ?_
              rintro e x15 ⟨rfl, rfl⟩
              go_wp2_with fail
              go_ret
              exact ⟨rfl, (unhide Qx15).bel⟩
          | bothOther hA hW hs hold it1 it2 apart size =>
            as_aux_lemma =>
              have HDx12 := hide hold
              have ITax12 := hide it1
              have ITbx12 := hide it2
              clear it1 it2
              have zx12 := zf
              have Qx12 := Q12
              have Wx12 := W12
              clear Q12 W12
              have hSZ := size
              have HSZ := hide size
              have HAP := hide apart
              clear apart
              have HSM := hide hs
              clear hs
              have ha : 0 < n0 := by rw [← unhide LA]; exact List.length_pos_iff.2 hA
              have hwp : 0 < nw := by rw [unhide HNW]; exact List.length_pos_iff.2 hW
              clear hA hW hold size hSZ
              go_wp2_with (with_reducible (show wpList _ _ _ ({ dst := _, op := Op.load 48 (Operand.tmp 17), type := _, pos := _, after := _, guard := _ } :: _) _ _); refine Halt.out ?_)
              refine Halt.mk ?_
              refine wpList_load_mid rfl 48 _ rfl w.heap.size 0 rfl hd _ (unhide Qx12).box.1 Try.underlying48 rfl (by rw [i48, (unhide H).arr.l1]) ?_
              go_frame
              go_wp2_with (with_reducible (show wpList _ _ _ ({ dst := _, op := Op.load 48 (Operand.tmp 19), type := _, pos := _, after := _, guard := _ } :: _) _ _); refine Halt.out ?_)
              refine Halt.mk ?_
              refine wpList_load_mid rfl 48 _ rfl (w.heap.size + 1) 0 rfl sr _ (unhide Qx12).box.2.1 Try.underlying48 rfl (by rw [i48, (unhide H).arr.l2]) ?_
              go_frame
              go_wp2_with (with_reducible (show wpList _ _ _ ({ dst := _, op := Op.load 48 (Operand.tmp 21), type := _, pos := _, after := _, guard := _ } :: _) _ _); refine Halt.out ?_)
              refine Halt.mk ?_
              refine wpList_load_mid rfl 48 _ rfl (w.heap.size + 1 + 1) 0 rfl tr _ (unhide Qx12).box.2.2 Try.underlying48 rfl (by rw [i48, (unhide H).arr.l3]) ?_
              go_frame
              go_wp2_with fail
              obtain ⟨g0, cc0, I0⟩ := ItemOk.of (k := 0) (unhide HDx12) rfl (unhide ITax12) (unhide HK).1
              refine (item34 I0 (unhide HY).1 (unhide HY).2.1 (unhide HY).2.2 ((unhide Qx12).s0.mono zx12)).mono ?_
              rintro e x13 ⟨rfl, bx13⟩
              clear I0
              have Qx13 := hide ((unhide Qx12).below (bx13.mono zx12))
              have Wx13 := hide ((unhide Wx12).below (bx13.mono zx12))
              have HDx13 := hide ((unhide HDx12).below bx13)
              have zx13 : x5.heap.size ≤ x13.heap.size := Nat.le_trans zx12 bx13.size
              have ITax13 := hide ((unhide ITax12).keep (S := fun _ => False) (Keep.of_below bx13) (fun _ h => h.elim))
              have ITbx13 := hide ((unhide ITbx12).keep (S := fun _ => False) (Keep.of_below bx13) (fun _ h => h.elim))
              have HAP := hide ((unhide HAP).below bx13)
              clear bx13 Qx12 Wx12 HDx12 ITax12 ITbx12
              go_wp2_with (with_reducible (show wpList _ _ _ ({ dst := _, op := Op.load 48 (Operand.tmp 17), type := _, pos := _, after := _, guard := _ } :: _) _ _); refine Halt.out ?_)
              refine Halt.mk ?_
              refine wpList_load_mid rfl 48 _ rfl w.heap.size 0 rfl hd _ (unhide Qx13).box.1 Try.underlying48 rfl (by rw [i48, (unhide H).arr.l1]) ?_
              go_frame
              go_wp2_with (with_reducible (show wpList _ _ _ ({ dst := _, op := Op.load 48 (Operand.tmp 19), type := _, pos := _, after := _, guard := _ } :: _) _ _); refine Halt.out ?_)
              refine Halt.mk ?_
              refine wpList_load_mid rfl 48 _ rfl (w.heap.size + 1) 0 rfl sr _ (unhide Qx13).box.2.1 Try.underlying48 rfl (by rw [i48, (unhide H).arr.l2]) ?_
              go_frame
              go_wp2_with (with_reducible (show wpList _ _ _ ({ dst := _, op := Op.load 48 (Operand.tmp 21), type := _, pos := _, after := _, guard := _ } :: _) _ _); refine Halt.out ?_)
              refine Halt.mk ?_
              refine wpList_load_mid rfl 48 _ rfl (w.heap.size + 1 + 1) 0 rfl tr _ (unhide Qx13).box.2.2 Try.underlying48 rfl (by rw [i48, (unhide H).arr.l3]) ?_
              go_frame
              go_wp2_with fail
              obtain ⟨g1, cc1, I1⟩ := ItemOk.of (k := 1) (unhide HDx13) rfl (unhide ITbx13) (unhide HK).2
              refine (item34 I1 (unhide HY).1 (unhide HY).2.1 (unhide HY).2.2 ((unhide Wx13).mono zx13)).mono ?_
              rintro e x14 ⟨rfl, bx14⟩
              clear I1
              have Qx14 := hide ((unhide Qx13).below (bx14.mono zx13))
              have Wx14 := hide ((unhide Wx13).below (bx14.mono zx13))
              have HDx14 := hide ((unhide HDx13).below bx14)
              have zx14 : x5.heap.size ≤ x14.heap.size := Nat.le_trans zx13 bx14.size
              have ITax14 := hide ((unhide ITax13).keep (S := fun _ => False) (Keep.of_below bx14) (fun _ h => h.elim))
              have ITbx14 := hide ((unhide ITbx13).keep (S := fun _ => False) (Keep.of_below bx14) (fun _ h => h.elim))
              have HAP := hide ((unhide HAP).below bx14)
              clear bx14 Qx13 Wx13 HDx13 ITax13 ITbx13
              go_wp2_with fail
              refine (items35 (unhide HDx14)).mono ?_
              rintro e x14 ⟨rfl, rfl⟩
              simp only [List.length_cons, List.length_nil]
              rw [unhide HSM]
              go_wp2_with fail
              refine (voters37 (unhide HDx14)).mono ?_
              rintro e x14 ⟨rfl, rfl⟩
              rw [unhide HSZ]
              go_wp2_with fail
              obtain ⟨ga0, ca0, J0⟩ := (unhide HDx14).item (k := 0) rfl
              obtain ⟨ga1, ca1, J1⟩ := (unhide HDx14).item (k := 1) rfl
              obtain ⟨rfl, rfl⟩ := ItemAt.same J0 J1
              obtain ⟨hne, cca, ccb, tta, ttb, hA1, hA2⟩ := unhide HAP
              refine (share38_other J0 J1 hne hA1 hA2).mono ?_
              rintro e x15 ⟨rfl, qs, hqs⟩
              have bx15 : Below x14.heap.size x14 x15 := by rw [hqs]; exact below_of_drew qs
              clear hqs J0 J1 hA1 hA2 hne
              have Qx15 := hide ((unhide Qx14).below (bx15.mono zx14))
              have Wx15 := hide ((unhide Wx14).below (bx15.mono zx14))
              have HDx15 := hide ((unhide HDx14).below bx15)
              have zx15 : x5.heap.size ≤ x15.heap.size := Nat.le_trans zx14 bx15.size
              have ITax15 := hide ((unhide ITax14).keep (S := fun _ => False) (Keep.of_below bx15) (fun _ h => h.elim))
              have ITbx15 := hide ((unhide ITbx14).keep (S := fun _ => False) (Keep.of_below bx15) (fun _ h => h.elim))
              have HAP := hide ((unhide HAP).below bx15)
              clear bx15 Qx14 Wx14 HDx14 ITax14 ITbx14
              go_wp2_with fail
              refine (blocks39 (unhide HDx15)).mono ?_
              rintro e x15 ⟨rfl, rfl⟩
              go_wp2_with fail
              go_ret
              exact ⟨rfl, (unhide Qx15).bel⟩
end Go.Proofs.Qxb6603397a

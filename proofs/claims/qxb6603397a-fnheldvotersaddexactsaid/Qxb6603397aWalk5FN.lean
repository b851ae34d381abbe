/-
  The walk of FnHeldVotersAddExact where both lists increase: no set, something new.
-/
import Derived.Test.Qxb6603397aWalk5H
namespace Go.Proofs.Qxb6603397a
open Go.RowKit Go.Maps

set_option maxRecDepth 100000 in
set_option maxHeartbeats 4000000 in
theorem walk5_fn (a0 : Option Addr) (n0 c0 : Nat) (F : List Int) (a1 : Option Addr) (n1 c1 : Nat) (S : List Int) (a3 : Option Addr) (n3 c3 : Nat) (X : List Int) (w : World) (h0 : Sl w.heap.size w a0 n0 c0 F) (h1 : Sl w.heap.size w a1 n1 c1 S) (h3 : Sl w.heap.size w a3 n3 c3 X)
    (l0 : n0 ≤ 4096) (l1 : n1 ≤ 4096) (l3 : n3 ≤ 4096) (hF : incB F = true) (hX : incB X = true) (hY : news X F ≠ []) :
    Calls Try.prog 5 #[.slice a0 n0 c0, .slice a1 n1 c1, .bool false, .slice a3 n3 c3] w fun e w' => e = .returned (.bool true) ∧ Below w.heap.size w w' := by
  have q1 := neNil23
  have H := hide (And.intro h0 (And.intro h1 h3))
  have HF := hide hF
  have HX := hide hX
  have LF := hide h0.len
  have LS := hide h1.len
  have LX := hide h3.len
  clear h0 h1 h3 hF hX
  go_enter Try.func5, Try.ntmps5
  go_wp2_with fail
  refine (bytes18 a0 a1 a3 n0 c0 n1 c1 n3 c3 false w (by unfold maxLen; omega) (by unfold maxLen; omega) (by unfold maxLen; omega)).mono ?_
  rintro e w' ⟨b, rfl, rfl, hb⟩
  have hb' := hb l0 l1 l3
  clear hb
  subst hb'
  rename World => w
  go_wp2_with fail
  refine (inc19 (unhide H).1).mono ?_
  rintro e x1 ⟨rfl, q, hx1⟩
  have B1 : Below w.heap.size w x1 := by rw [hx1]; exact below_of_drew q
  clear hx1
  rw [unhide HF]
  go_wp2_with fail
  refine (inc19 ((unhide H).2.2.below B1)).mono ?_
  rintro e x2 ⟨rfl, q', hx2⟩
  have B2 : Below w.heap.size w x2 := B1.trans (by rw [hx2]; exact (below_of_drew q').mono B1.size)
  clear hx2 B1
  rw [unhide HX]
  go_wp2_with fail
  refine (clone12 ((unhide H).1.below B2) B2.size (by omega)).mono ?_
  rintro e x3 ⟨b0, d0, rfl, _, o0, b3⟩
  have S0 := Sl.of_owns o0 (unhide H).1.u64
  have B3 := B2.trans (b3.mono B2.size)
  go_wp2_with fail
  refine (clone12 ((unhide H).2.1.below B3) B3.size (by omega)).mono ?_
  rintro e x4 ⟨b1, d1, rfl, _, o1, b4⟩
  have S1 := Sl.of_owns o1 (unhide H).2.1.u64
  have S0' := S0.below b4
  have B4 := B3.trans (b4.mono B3.size)
  go_wp2_with fail
  refine (clone12 ((unhide H).2.2.below B4) B4.size (by omega)).mono ?_
  rintro e x5 ⟨b3', d3, rfl, _, o3, b5⟩
  have S3 := Sl.of_owns o3 (unhide H).2.2.u64
  have S0'' := S0'.below (b5.mono b4.size)
  have S1' := S1.below b5
  have B5 := B4.trans (b5.mono B4.size)
  go_wp2_with fail
  refine (clone12 S0'' (Nat.le_trans b4.size b5.size) (by omega)).mono ?_
  rintro e x6 ⟨bf, df, rfl, _, of, b6⟩
  have Sf := Sl.of_owns of (unhide H).1.u64
  have T0 := (S0''.mono (Nat.le_trans b4.size b5.size)).below b6
  have T1 := (S1'.mono b5.size).below b6
  have T3 := S3.below b6
  have B6 := B5.trans (b6.mono B5.size)
  go_wp2_with fail
  refine (new20 false Sf (T1.mono b6.size) (Nat.le_refl _) (by omega) (by omega)).mono ?_
  rintro e x7 ⟨m, rfl, hm, hH, b7⟩
  have ST : St w x7 x6.heap.size bf df m F b0 n0 d0 F b1 n1 d1 S b3' n3 d3 X :=
    ⟨hH, (T0.mono b6.size).below b7, (T1.mono b6.size).below b7, (T3.mono b6.size).below b7, B6.size, B6.trans (b7.mono B6.size)⟩
  have HST := hide ST
  have hmlt : ∀ mb, m = some mb → mb < x7.heap.size := fun mb e => (hH.ismap mb e).2.lt
  have hvlt : x6.heap.size < x7.heap.size := hH.lt
  have R3 : x7.ownsRow w.heap.size 39 1 (.slice b3' n3 d3) n3 (vals X) := (o3.base B4.size).kept (grownBy_of_below (Below.trans' b6 b7)) (Classical.em _)
  have R3b : ∀ g, (Value.slice b3' n3 d3).ownBlock = some g → g < x6.heap.size := fun g hg => Nat.lt_of_lt_of_le (o3.lt g hg).2 b6.size
  have HR3 := hide (And.intro R3 (And.intro R3b (And.intro hmlt hvlt)))
  clear R3 R3b hmlt hvlt
  have HM := hide hm
  clear ST hH b7 B6 T0 T1 T3 Sf of b6 B5 S1' S0'' S3 o3 b5 B4 S0' S1 o1 b4 B3 S0 o0 b3 B2 H hm
  generalize x6.heap.size = vb at *
  obtain ⟨L, hLe⟩ : ∃ L, L = F := ⟨_, rfl⟩
  have HST2 : Hid (St w x7 vb bf df m L b0 n0 d0 F b1 n1 d1 S b3' n3 d3 X) := hide (by rw [hLe]; exact unhide HST)
  clear HST
  have HST := HST2
  clear HST2
  have HLL : Hid (L.length ≤ 8192) := hide (by
    have e1 := unhide LF
    have e2 := unhide LS
    rw [hLe]
    simp
    omega)
  have HYE : Hid (news X L ≠ []) := hide (by rw [hLe]; exact hY)
  clear hY
  have HLs : Hid (∀ x ∈ F, x ∈ L) := hide (by rw [hLe]; exact fun x hx => hx)
  have HLc : Hid (∀ x, inB L x = inB F x) := hide (fun x => by rw [hLe])
  have HLd : Hid (dist L = F.length) := hide (by rw [hLe]; exact dist_inc (unhide HF))
  clear hLe
  obtain ⟨i0, hi, hz0, hz1, hz2⟩ := info_parts Try.info39
  have h77 := Nat.le_refl x7.heap.size
  have hw7 : w.heap.size ≤ x7.heap.size := (unhide HST).bel.size
  generalize hB7 : x7.heap.size = B7 at *
  have HB7 := hide hB7
  clear hB7 h77
  go_wp2
  go_loopw [10, 11] (fun v i wr => ∃ k : Nat, k ≤ n3 ∧ i = .int .i64 k ∧ wr.ownsRow B7 39 1 v (fr X L k).length (vals (fr X L k)) ∧ B7 ≤ wr.heap.size ∧ Hid (St w wr vb bf df m L b0 n0 d0 F b1 n1 d1 S b3' n3 d3 X ∧ Below x7.heap.size x7 wr)) (fun _ i _ => n3 - (intOf i).toNat)
  case atStart => exact ⟨0, Nat.zero_le _, rfl, World.ownsRow_nil _ _ _ _, Nat.le_of_eq (unhide HB7).symm, hide ⟨unhide HST, Below.refl _ _⟩⟩
  case round =>
    clear HST
    obtain ⟨k, hk, rfl, hrow, hB, HST⟩ := hrel
    by_cases hlt : k < n3
    · obtain ⟨rb, roff, ra, _, cR⟩ := (unhide HST).1.list.at (Nat.le_of_lt (unhide HST).1.held.lt) (by omega)
      have c1 := cR k hlt
      have hxw := (unhide HST).1.list.wf_at k
      have hfl := fr_le X L k
      have HFS := hide (fr_succ X L k (by rw [unhide LX]; omega))
      subst ra
      clear cR
      generalize X.getD k 0 = y at *
      have HC := hide ((unhide HLc) y)
      go_wp2_with fail
      refine (con21 (unhide HST).1.first y).mono ?_
      rintro e z1 ⟨rfl, rfl⟩
      rename World => wr
      cases hf : inB F y with
      | true =>
        have HCF := hide hf
        clear hf
        go_wp2
        go_roundw
        case rel =>
          have e1 : fr X L (k + 1) = fr X L k := by rw [unhide HFS, unhide HC, unhide HCF]; rfl
          exact ⟨k + 1, by omega, by go_num, by rw [e1]; exact hrow, hB, HST⟩
        case measure => simp [intOf]; omega
      | false =>
        have HCF := hide hf
        clear hf
        have HE : Hid (fr X L (k + 1) = fr X L k ++ [y]) := hide (by rw [unhide HFS, unhide HC]; simp [unhide HCF])
        go_wp2_with (at_builtin; refine wpList_append_own _ rfl _ _ 23 rfl B7 39 i0 (.int .u64 0) 1 8 Try.underlying23 hi hz0 hz1 hz2 rfl (by decide) _ _ _ rfl (hrow.alloc _) ⟨wr.heap.size, 0, none⟩ 1 1 [.int .u64 y] rfl rfl (cell_one_new _ _ _) (ints_oneCell .u64 [y]) (by unfold maxLen; omega) (by omega) (by simp; omega) ?_; intro v' w3 hown3 hgrow3 hnil3)
        have s3 := hgrow3.size
        simp at s3
        go_roundw
        case rel =>
          have bb : Below B7 wr w3 := ((Below.refl _ _).alloc hB _).grown hgrow3 (by simp; omega) (fun j hj => (hrow.lt j hj).1)
          refine ⟨k + 1, by omega, by go_num, ?_, by omega, hide ⟨(unhide HST).1.belowB bb (unhide HR3).2.2.2 (unhide HR3).2.2.1, (unhide HST).2.trans (by rw [unhide HB7]; exact bb)⟩⟩
          rw [unhide HE, vals_append, List.length_append]
          exact hown3
        case measure => simp [intOf]; omega

    · have hkn : n3 = k := by omega
      subst hkn
      have en : fr X L n3 = news X L := by unfold news; rw [unhide LX]
      rw [en] at hrow
      clear en hk hlt
      obtain ⟨wa, wc, hve⟩ := ownsRow_shape hrow
      subst hve
      have hlist : wr.ownsRow w.heap.size 39 1 (.slice b3' n3 d3) n3 (vals X) := ownsRow_later (unhide HR3).1 (unhide HST).2
      have HW := hide (And.intro hrow hlist)
      clear hrow hlist hB
      have HYd := hide (dist_news (X := X) (L := L) (unhide HX))
      have HYs : Hid (∀ x ∈ X, x ∈ L ++ news X L) := hide (fun x hx => news_sub X L hx)
      have hyb := news_le X L
      rw [unhide LX] at hyb
      have HOD : Hid (dist L = n0) := hide (by rw [unhide HLd, unhide LF])
      go_wp2_with fail
      refine (add23 (unhide HST).1.held (unhide HF) (by rw [unhide LF]; omega) (by have := unhide HLL; omega) (unhide HST).1.list (Nat.le_of_lt (unhide HST).1.held.lt) (by omega)).mono ?_
      rintro e x8 ⟨ga, gc, m2, rfl, hA⟩
      have FN := hide (Fin.of_added (unhide HST).1 hA (unhide HW).1 (unhide HW).2 (unhide HR3).2.1 (unhide HR3).2.2.2 (unhide HR3).2.2.1)
      have HAm := hide (And.intro hA.none hA.some)
      clear hA HST HW HR3 HLc HB7
      generalize news X L = Y at *
      generalize hyl : Y.length = y at *
      have HYL := hide hyl
      clear hyl
      have hyp : 0 < y := by
        rw [← unhide HYL]
        exact List.length_pos_iff.2 (unhide HYE)
      have hy0 : ((y : Int) == 0) = false := by rw [beq_eq_false_iff_ne]; omega
      have hgs := (unhide FN).gotS
      have hws := (unhide FN).wantS
      rw [unhide HYL] at hgs hws
      have HG := hide (And.intro hgs hws)
      clear hgs hws
      go_wp2_with fail
      refine (eq24 (unhide HG).1 (unhide HG).2).mono ?_
      rintro e x9 ⟨rfl, q9, hq9⟩
      have FN9 := hide ((unhide FN).below (x' := x9) (by rw [hq9]; exact below_of_drew q9))
      clear FN HG hq9
      have FN := FN9
      clear FN9
      rw [beq_self_eq_true]
      go_wp2_with fail
      refine (first25 (unhide FN).st.held).mono ?_
      rintro e x10 ⟨rfl, hx10⟩
      subst hx10
      rw [unhide LF]
      have hfs := (unhide FN).st.held.row
      rw [unhide LF] at hfs
      have HG := hide hfs
      clear hfs
      go_wp2_with fail
      refine (eq24 (unhide HG) (unhide FN).st.first).mono ?_
      rintro e x11 ⟨rfl, q11, hq11⟩
      have FN11 := hide ((unhide FN).below (x' := x11) (by rw [hq11]; exact below_of_drew q11))
      clear FN HG hq11
      have FN := FN11
      clear FN11
      rw [beq_self_eq_true]
      go_wp2_with fail
      refine (hasSet26 (unhide FN).st.held).mono ?_
      rintro e x12 ⟨rfl, hx12⟩
      subst hx12
      obtain ⟨mb, hmb⟩ := Option.isSome_iff_exists.1 ((unhide HAm).2 (unhide HYE)).2
      subst hmb
      go_wp2_with fail
      refine (setLen27 (unhide FN).st.held).mono ?_
      rintro e x13 ⟨rfl, hx13⟩
      subst hx13
      have hse : setLen (some mb) (L ++ Y) = n0 + y := by
        show dist (L ++ Y) = _
        rw [unhide HYd, unhide HOD]
      rw [hse]
      clear hse
      have F_wf := (unhide FN).st.first.wf_at
      have S_wf := (unhide FN).st.set.wf_at
      have Y_wf := (unhide FN).wantS.wf_at
      go_wp2
      go_loopw [15] (fun i wr => ∃ k : Nat, k ≤ n0 ∧ i = .int .i64 k ∧ Hid (Fin w wr vb bf df (some mb) (L ++ Y) b0 n0 d0 F b1 n1 d1 S b3' n3 d3 X ga gc wa wc Y)) (fun i _ => n0 - (intOf i).toNat)
      case atStart => exact ⟨0, Nat.zero_le _, rfl, FN⟩
      case round =>
        clear FN
        obtain ⟨k, hk, rfl, FN⟩ := hrel
        by_cases hlt : k < n0
        · obtain ⟨rb, roff, ra, _, cR⟩ := (unhide FN).st.first.at (Nat.le_of_lt (unhide FN).st.held.lt) (by omega)
          have c1 := cR k (by omega)
          have hxw := F_wf k
          have hin := inB_at (zs := F) (L := L ++ Y) (k := k) (by rw [unhide LF]; exact hlt) (fun x hx => List.mem_append_left _ ((unhide HLs) x hx))
          subst ra
          clear cR
          generalize F.getD k 0 = y1 at *
          go_wp2_with fail
          refine (inSet28 (unhide FN).st.held y1 hxw).mono ?_
          rintro e z1 ⟨rfl, hbz⟩
          rw [hin]
          have FN1 := hide ((unhide FN).below hbz)
          clear FN hbz hin
          go_wp2
          go_roundw
          case rel => exact ⟨k + 1, by omega, by go_num, FN1⟩
          case measure => simp [intOf]; omega
        · clear hk
          go_wp2
          go_loopw [17] (fun i wr => ∃ k : Nat, k ≤ y ∧ i = .int .i64 k ∧ Hid (Fin w wr vb bf df (some mb) (L ++ Y) b0 n0 d0 F b1 n1 d1 S b3' n3 d3 X ga gc wa wc Y)) (fun i _ => y - (intOf i).toNat)
          case atStart => exact ⟨0, Nat.zero_le _, rfl, FN⟩
          case round =>
            clear FN
            obtain ⟨k, hk, rfl, FN⟩ := hrel
            by_cases hlt : k < y
            · obtain ⟨rb, roff, ra, _, cR⟩ := (unhide FN).wantS.at (Nat.le_refl _) (by rw [unhide HYL]; omega)
              have c1 := cR k (by rw [unhide HYL]; exact hlt)
              have hxw := Y_wf k
              have hin := inB_at (zs := Y) (L := L ++ Y) (k := k) (by rw [unhide HYL]; exact hlt) (fun x hx => List.mem_append_right _ hx)
              subst ra
              clear cR
              generalize Y.getD k 0 = y1 at *
              go_wp2_with fail
              refine (inSet28 (unhide FN).st.held y1 hxw).mono ?_
              rintro e z1 ⟨rfl, hbz⟩
              rw [hin]
              have FN1 := hide ((unhide FN).below hbz)
              clear FN hbz hin
              go_wp2
              go_roundw
              case rel => exact ⟨k + 1, by omega, by go_num, FN1⟩
              case measure => simp [intOf]; omega
            · clear hk
              go_wp2
              have h9 : Hid (wr.ownsRow w.heap.size 39 1 (.slice b3' n3 d3) n3 (vals X) ∧ wr.ownsRow vb 39 1 (.slice ga Y.length gc) Y.length (vals Y) ∧ wr.ownsRow vb 39 1 (.slice wa Y.length wc) Y.length (vals Y) ∧ Below w.heap.size w wr) := hide ⟨(unhide FN).list, (unhide FN).got, (unhide FN).want, (unhide FN).st.bel⟩
              have hfar := hide (unhide FN).far
              have hYwf := hide (unhide FN).wf
              clear FN
              go_loopw [18] (fun i wr => ∃ k : Nat, k ≤ n3 ∧ i = .int .i64 k ∧ Hid (∃ vs, wr.ownsRow w.heap.size 39 1 (.slice b3' n3 d3) n3 vs ∧ (∀ j, k ≤ j → j < n3 → vs[j]? = some (.int .u64 (X.getD j 0))) ∧ wr.ownsRow vb 39 1 (.slice ga Y.length gc) Y.length (vals Y) ∧ wr.ownsRow vb 39 1 (.slice wa Y.length wc) Y.length (vals Y) ∧ Below w.heap.size w wr)) (fun i _ => n3 - (intOf i).toNat)
              case atStart => exact ⟨0, Nat.zero_le _, rfl, hide ⟨vals X, (unhide h9).1, fun j _ hj => vals_get X j (by rw [unhide LX]; exact hj), (unhide h9).2.1, (unhide h9).2.2.1, (unhide h9).2.2.2⟩⟩
              case round =>
                clear h9
                obtain ⟨k, hk, rfl, h9⟩ := hrel
                obtain ⟨vs, hvo, hvg, hgo, hwo, hbel⟩ := unhide h9
                by_cases hlt : k < n3
                · obtain ⟨g, cap, cur, hve, hg0, _⟩ := (hvo.2.resolve_left (fun h => by omega))
                  simp only [Value.slice.injEq] at hve
                  obtain ⟨hb3, _, hd3⟩ := hve
                  subst hb3
                  subst hd3
                  have c1 := (hvo.cellAt k (by omega)).trans (hvg k (Nat.le_refl _) hlt)
                  have f1 := hvo.frozenAt k
                  have hgv : g < vb := unhide hfar g rfl
                  have hst : Hid (∀ u, (wr.setCell ⟨g, k, none⟩ u).ownsRow w.heap.size 39 1 (.slice (some ⟨g, 0, none⟩) n3 d3) n3 (vs.set k u) ∧ wr.grownBy (wr.setCell ⟨g, k, none⟩ u) (some g)) := hide (fun u => hvo.stored k u)
                  have h10 := hide (And.intro hvg (And.intro hgo (And.intro hwo hbel)))
                  clear hvo hvg hgo hwo hbel h9
                  generalize X.getD k 0 = y1 at *
                  go_wp2
                  go_roundw
                  case rel =>
                    obtain ⟨hvg, hgo, hwo, hbel⟩ := unhide h10
                    refine ⟨k + 1, by omega, by go_num, hide ⟨_, (unhide hst _).1, ?_, ?_, ?_, ?_⟩⟩
                    · intro j hj1 hj2
                      rw [List.getElem?_set_ne (by omega)]
                      exact hvg j (by omega) hj2
                    · exact hgo.kept (unhide hst _).2 (.inr (fun e => by have := (hgo.lt g e).1; omega))
                    · exact hwo.kept (unhide hst _).2 (.inr (fun e => by have := (hwo.lt g e).1; omega))
                    · exact hbel.grown (unhide hst _).2 hbel.size (fun j hj => by cases hj; exact hg0)
                  case measure => simp [intOf]; omega
                · clear hk
                  have hgs := Sl.of_owns hgo (unhide hYwf)
                  have hws := Sl.of_owns hwo (unhide hYwf)
                  rw [unhide HYL] at hgs hws
                  have h11 := hide (And.intro hbel (And.intro hgs hws))
                  clear hvo hvg hgo hwo hbel h9 hgs hws
                  go_wp2_with fail
                  refine (eq24 (unhide h11).2.1 (unhide h11).2.2).mono ?_
                  rintro e x20 ⟨rfl, q20, hq20⟩
                  rw [beq_self_eq_true]
                  have h12 : Hid (Below w.heap.size w x20) := hide (by rw [hq20]; exact below_drewN (unhide h11).1 q20)
                  clear hq20 h11
                  go_wp2
                  go_ret
                  exact ⟨rfl, unhide h12⟩

end Go.Proofs.Qxb6603397a

/-
  The walk of FnHoldVoteTotalIsUnionEitherOrder on lists that increase.
-/
import Derived.Test.Qxb6603397aReg8
namespace Go.Proofs.Qxb6603397a
open Go.RowKit Go.Maps

set_option maxRecDepth 100000 in
set_option maxHeartbeats 4000000 in
theorem walk8_main (a0 a1 : Option Addr) (n0 c0 n1 c1 : Nat) (A B : List Int) (sl ix se te : Int) (hd sr tr : List Value) (hA : Arrs hd sr tr) (fb : Bool) (w : World) (h0 : Sl w.heap.size w a0 n0 c0 A) (h1 : Sl w.heap.size w a1 n1 c1 B) (l0 : n0 ≤ 4096) (l1 : n1 ≤ 4096) (iA : incB A = true) (iB : incB B = true)
    (kl : Lit) (hkl : keyOf Try.prog 69 (.agg (keyL sl ix se te hd sr tr fb).toArray) = some kl) :
    Calls Try.prog 8 #[.slice a0 n0 c0, .slice a1 n1 c1, .int .u64 sl, .int .u64 ix, .agg hd.toArray, .int .u64 se, .agg sr.toArray, .int .u64 te, .agg tr.toArray, .bool fb] w fun e w' => e = .returned (.bool true) ∧ Below w.heap.size w w' := by
  have H := hide (Sizes.mk' (va := none) (vn := 0) (vc := 0) (sl := sl) (ix := ix) (se := se) (te := te) hA)
  have HS := hide (And.intro h0 h1)
  have HI := hide (And.intro iA iB)
  have HK := hide hkl
  clear hA h0 h1 iA iB hkl
  go_enter Try.func8, Try.ntmps8
  go_wp2_with (first
    | (with_reducible (show wpList _ _ _ ({ dst := _, op := Op.load 48 (Operand.tmp 14), type := _, pos := _, after := _, guard := _ } :: _) _ _); refine wpList_load_row rfl 48 _ rfl w.heap.size rfl 48 hd.toArray (0, 0) _ (heap3_0 _ _ _ _) Try.underlying48 rfl (unhide H).s1 ?_; go_frame)
    | (with_reducible (show wpList _ _ _ ({ dst := _, op := Op.load 48 (Operand.tmp 16), type := _, pos := _, after := _, guard := _ } :: _) _ _); refine wpList_load_row rfl 48 _ rfl (w.heap.size + 1) rfl 48 sr.toArray (0, 0) _ (heap3_1 _ _ _ _) Try.underlying48 rfl (unhide H).s2 ?_; go_frame)
    | (with_reducible (show wpList _ _ _ ({ dst := _, op := Op.load 48 (Operand.tmp 18), type := _, pos := _, after := _, guard := _ } :: _) _ _); refine wpList_load_row rfl 48 _ rfl (w.heap.size + 1 + 1) rfl 48 tr.toArray (0, 0) _ (heap3_2 _ _ _ _) Try.underlying48 rfl (unhide H).s3 ?_; go_frame))
  have hb0 : Below w.heap.size w (((w.alloc (.cells hd.toArray 48)).alloc (.cells sr.toArray 48)).alloc (.cells tr.toArray 48)) := (((Below.refl _ _).alloc (Nat.le_refl _) _).alloc (by simp) _).alloc (by simp; omega) _
  have hbx0 : Box (((w.alloc (.cells hd.toArray 48)).alloc (.cells sr.toArray 48)).alloc (.cells tr.toArray 48)) w.heap.size hd sr tr := box_facts w hd sr tr
  refine (bytes40 a0 a1 n0 c0 n1 c1 sl ix se te hd.toArray sr.toArray tr.toArray fb _ (by unfold maxLen; omega) (by unfold maxLen; omega)).mono ?_
  rintro e x0 ⟨b, rfl, hbx, hb⟩
  have hb' := hb l0 l1
  clear hb
  subst hb'
  have B0 := hb0.trans (hbx.mono hb0.size)
  have X0 := hbx0.below hbx (by simp)
  have S0 : w.heap.size + 3 ≤ x0.heap.size := by have := hbx.size; simp at this; omega
  clear hb0 hbx hbx0
  go_wp2_with fail
  refine (inc19 ((unhide HS).1.below B0)).mono ?_
  rintro e x1 ⟨rfl, q1, hx1⟩
  have b1 : Below x0.heap.size x0 x1 := by rw [hx1]; exact below_of_drew q1
  clear hx1
  rw [(unhide HI).1]
  go_wp2_with fail
  refine (inc19 (((unhide HS).2.below B0).below (b1.mono (by omega)))).mono ?_
  rintro e x2 ⟨rfl, q2, hx2⟩
  have b2 : Below x0.heap.size x0 x2 := b1.trans (by rw [hx2]; exact (below_of_drew q2).mono b1.size)
  clear hx2 b1
  rw [(unhide HI).2]
  go_wp2_with fail
  refine (clone12 (((unhide HS).1.below B0).below (b2.mono (by omega))) (by have := b2.size; omega) (by omega)).mono ?_
  rintro e x3 ⟨p0, d0, rfl, _, o0, b3⟩
  have T0 := Sl.of_owns o0 (unhide HS).1.u64
  have B3 : Below x0.heap.size x0 x3 := b2.trans (b3.mono b2.size)
  go_wp2_with fail
  refine (clone12 (((unhide HS).2.below B0).below (B3.mono (by omega))) (by have := B3.size; omega) (by omega)).mono ?_
  rintro e x4 ⟨p1, d1, rfl, _, o1, b4⟩
  have T1 := Sl.of_owns o1 (unhide HS).2.u64
  have T0' := (T0.below b4).mono b4.size
  have B4 := B3.trans (b4.mono B3.size)
  go_wp2_with fail
  refine (union41 T0' T1 (Nat.le_refl _) (Nat.le_refl _) (by omega) (by omega) (unhide HI).1 (unhide HI).2).mono ?_
  rintro e x5 ⟨u, rfl, hU, q5, hx5⟩
  have b5 : Below x4.heap.size x4 x5 := by rw [hx5]; exact below_of_drew q5
  have hs5 : x5.heap.size = x4.heap.size := by rw [hx5]; simp
  clear hx5
  have B5 := B4.trans (b5.mono B4.size)
  go_wp2_with fail
  refine (newHolding32 x5).mono ?_
  rintro e x6 ⟨rfl, hH, b6, hs6⟩
  have B6 := B5.trans (b6.mono B5.size)
  have U0 := (T0'.below b5).below (b6.mono (by omega))
  have U1 := (T1.below b5).below (b6.mono (by omega))
  have X6 := X0.below B6 (by omega)
  have W6 := B0.trans (B6.mono B0.size)
  have hV : VState x6 (x5.heap.size + 2) x5.heap.size (x5.heap.size + 1) kl [] 0 := hH
  have hsz6 : w.heap.size + 3 ≤ x5.heap.size := by have := B5.size; omega
  rw [← hs5] at U0 U1
  have HB8 : Hid (B8 w x6 x5.heap.size hd sr tr p0 n0 d0 A p1 n1 d1 B) := hide ⟨X6, U0, U1, W6, hsz6⟩
  have HV := hide hV
  have HU := hide hU
  clear T0 T0' T1 o0 o1 b2 b3 b4 b5 b6 B3 B4 B5 B6 hH X0 B0 X6 U0 U1 W6 hV hU hs5
  have hu := Try.underlying48
  have hi1 : (Try.prog.info? 48).map (·.size) = some hd.length := by rw [i48, (unhide H).arr.l1]
  have hi2 : (Try.prog.info? 48).map (·.size) = some sr.length := by rw [i48, (unhide H).arr.l2]
  have hi3 : (Try.prog.info? 48).map (·.size) = some tr.length := by rw [i48, (unhide H).arr.l3]
  have hl1 := (unhide H).arr.l1
  have hl2 := (unhide H).arr.l2
  have hl3 := (unhide H).arr.l3
  generalize x5.heap.size = bm at *
  have hx6 : bm + 3 = x6.heap.size := hs6.symm
  clear hs6
  go_wp2_with fail
  have Q0 := HB8
  have V0 := HV
  have Z0 : bm ≤ x6.heap.size := by omega
  clear HB8 HV
  refine reg13 sl ix se te hd sr tr (unhide H).arr fb w x6 (bm + 2) bm (bm + 1) p0 p1 n0 d0 n1 d1 A B [] 0 kl (unhide HK) (unhide Q0) (unhide V0) (by omega) (by omega) Z0 (by intro h; omega) (by omega) _ _ _ _ _ _ _ _ _ _ _ _ _ _ _ _ _ _ _ _ _ _ _ _ _ _ _ _ _ _ _ _ _ _ _ _ _ _ _ _ _ _ _ _ _ _ _ _ _ _ _ _ _ _ _ _ _ _ _ _ _ _ _ _ _ _ _ _ _ _ _ _ _ _ _ _ _ _ _ _ _ _ _ _ _ _ _ _ _ _ _ _ _ _ _ _ _ _ _ _ _ _ _ _ _ _ _ _ _ _ _ _ _ _ _ _ _ _ _ _ _ _ _ _ _ _ _ _ _ _ _ _ _ _ _ _ _ _ _ _ _ _ _ _ _ _ _ _ _ _ _ _ _ _ _ _ _ _ _ _ ?_
  intro z1 pa1 pc1 Q1 V1 Y1
  have V1 : VState z1 (bm + 2) bm (bm + 1) kl A (vst 0 [] A) := V1
  have Z1 : bm ≤ z1.heap.size := Nat.le_trans Z0 Y1.size
  have V1 := hide V1
  have Q1 := hide Q1
  clear Q0 V0 Y1
  go_wp2_with fail
  refine reg14 sl ix se te hd sr tr (unhide H).arr fb w z1 (bm + 2) bm (bm + 1) p0 p1 n0 d0 n1 d1 A B A (vst 0 [] A) kl (unhide HK) (unhide Q1) (unhide V1) (vst_le _ _) (by omega) Z1 (fun _ => ⟨(unhide HI).1, by have := (unhide HS).1.len; omega⟩) (by omega) _ _ _ _ _ _ _ _ _ _ _ _ _ _ _ _ _ _ _ _ _ _ _ _ _ _ _ _ _ _ _ _ _ _ _ _ _ _ _ _ _ _ _ _ _ _ _ _ _ _ _ _ _ _ _ _ _ _ _ _ _ _ _ _ _ _ _ _ _ _ _ _ _ _ _ _ _ _ _ _ _ _ _ _ _ _ _ _ _ _ _ _ _ _ _ _ _ _ _ _ _ _ _ _ _ _ _ _ _ _ _ _ _ _ _ _ _ _ _ _ _ _ _ _ _ _ _ _ _ _ _ _ _ _ _ _ _ _ _ _ _ _ _ _ _ _ _ _ _ _ _ _ _ _ _ _ _ _ _ _ ?_
  intro z2 pa2 pc2 Q2 V2 Y2
  have Z2 : bm ≤ z2.heap.size := Nat.le_trans Z1 Y2.size
  have V2 := hide V2
  have Q2 := hide Q2
  clear Q1 V1 Y2
  go_wp2_with fail
  refine (newHolding32 z2).mono ?_
  rintro e x7 ⟨rfl, hH, b7, hs7⟩
  have Q3 := hide (((unhide Q2).mono Z2).below b7)
  have VH := V2
  have V3 : Hid (VState x7 (z2.heap.size + 2) z2.heap.size (z2.heap.size + 1) kl [] 0) := hide hH
  have HB3 := hide b7
  have Z3 : z2.heap.size ≤ x7.heap.size := b7.size
  clear Q2 V2 hH b7 hs7
  go_wp2_with fail
  refine reg16 sl ix se te hd sr tr (unhide H).arr fb w x7 (z2.heap.size + 2) z2.heap.size (z2.heap.size + 1) p0 p1 n0 d0 n1 d1 A B [] 0 kl (unhide HK) (unhide Q3) (unhide V3) (by omega) (by omega) Z3 (by intro h; omega) (by omega) _ _ _ _ _ _ _ _ _ _ _ _ _ _ _ _ _ _ _ _ _ _ _ _ _ _ _ _ _ _ _ _ _ _ _ _ _ _ _ _ _ _ _ _ _ _ _ _ _ _ _ _ _ _ _ _ _ _ _ _ _ _ _ _ _ _ _ _ _ _ _ _ _ _ _ _ _ _ _ _ _ _ _ _ _ _ _ _ _ _ _ _ _ _ _ _ _ _ _ _ _ _ _ _ _ _ _ _ _ _ _ _ _ _ _ _ _ _ _ _ _ _ _ _ _ _ _ _ _ _ _ _ _ _ _ _ _ _ _ _ _ _ _ _ _ _ _ _ _ _ _ _ _ _ _ _ _ _ _ _ ?_
  intro z4 pa4 pc4 Q4 V4 Y4
  have V4 : VState z4 (z2.heap.size + 2) z2.heap.size (z2.heap.size + 1) kl B (vst 0 [] B) := V4
  have Z4 : z2.heap.size ≤ z4.heap.size := Nat.le_trans Z3 Y4.size
  have HB4 := hide ((unhide HB3).trans Y4)
  have V4 := hide V4
  have Q4 := hide Q4
  clear Q3 V3 Y4 HB3
  go_wp2_with fail
  refine reg17 sl ix se te hd sr tr (unhide H).arr fb w z4 (z2.heap.size + 2) z2.heap.size (z2.heap.size + 1) p0 p1 n0 d0 n1 d1 A B B (vst 0 [] B) kl (unhide HK) (unhide Q4) (unhide V4) (vst_le _ _) (by omega) Z4 (fun _ => ⟨(unhide HI).2, by have := (unhide HS).2.len; omega⟩) (by omega) _ _ _ _ _ _ _ _ _ _ _ _ _ _ _ _ _ _ _ _ _ _ _ _ _ _ _ _ _ _ _ _ _ _ _ _ _ _ _ _ _ _ _ _ _ _ _ _ _ _ _ _ _ _ _ _ _ _ _ _ _ _ _ _ _ _ _ _ _ _ _ _ _ _ _ _ _ _ _ _ _ _ _ _ _ _ _ _ _ _ _ _ _ _ _ _ _ _ _ _ _ _ _ _ _ _ _ _ _ _ _ _ _ _ _ _ _ _ _ _ _ _ _ _ _ _ _ _ _ _ _ _ _ _ _ _ _ _ _ _ _ _ _ _ _ _ _ _ _ _ _ _ _ _ _ _ _ _ _ _ ?_
  intro z5 pa5 pc5 Q5 V5 Y5
  have VH' := (unhide VH).below ((unhide HB4).trans Y5)
  have hbel := hide Q5.bel
  obtain ⟨e1, e2, s1, N1⟩ := nums8 (unhide HU)
  obtain ⟨e3, e4, s2, N2⟩ := nums8 (And.symm (unhide HU))
  have hu1 : u ≤ 8192 := by have h1 := (unhide HU).1; have h2 := news_le B A; have h3 := (unhide HS).1.len; have h4 := (unhide HS).2.len; omega
  rw [N1.h3] at VH'
  rw [N2.h3] at V5
  rw [N1.h1, N1.h2, N2.h1, N2.h2]
  obtain ⟨iv1, it1, M1, D1, H1, L1, S1⟩ := VH'.out N1.two
  obtain ⟨iv2, it2, M2, D2, H2, L2, S2⟩ := V5.out N2.two
  have sum1 := N1.sum
  have sum2 := N2.sum
  have i1 := N1.items
  have i2 := N2.items
  rw [(unhide HS).1.len] at i1
  rw [(unhide HS).2.len] at i2
  have t1 : u = 0 → Maps.size D1 = 0 := fun h => by rw [S1, if_pos (N1.zero.mpr h)]
  have t2 : u = 0 → Maps.size D2 = 0 := fun h => by rw [S2, if_pos (N2.zero.mpr h)]
  have t3 : 0 < u → Maps.size D1 = 1 := fun h => by rw [S1, if_neg (fun hz => by have := N1.zero.mp hz; omega)]
  have t4 : 0 < u → Maps.size D2 = 1 := fun h => by rw [S2, if_neg (fun hz => by have := N2.zero.mp hz; omega)]
  have C1 := hide (voters37 H1)
  have C2 := hide (voters37 H2)
  have C3 := hide (items35 H1)
  have C4 := hide (items35 H2)
  rw [L1] at C3
  rw [L2] at C4
  clear H1 H2 S1 S2 L1 L2 N1 N2 HU VH VH' V5 Q5 Y5 HB4 Q4 V4
  generalize Maps.size D1 = k1 at *
  generalize Maps.size D2 = k2 at *
  have r0 := nz_range (n0 : Int)
  have r1 := nz_range (n1 : Int)
  have r2 := nz_range ((u : Int) - n0)
  have r3 := nz_range ((u : Int) - n1)
  rcases Nat.eq_zero_or_pos u with hu0 | hu0
  · have k1e := t1 hu0
    have k2e := t2 hu0
    clear t1 t2 t3 t4
    subst k1e k2e
    have hu1 : (u : Int) < 1 := by omega
    clear hu0
    go_wp2_with fail
    refine (unhide C1).mono ?_
    rintro e y ⟨rfl, rfl⟩
    go_wp2_with fail
    refine (unhide C2).mono ?_
    rintro e y ⟨rfl, rfl⟩
    go_wp2_with fail
    refine (unhide C3).mono ?_
    rintro e y ⟨rfl, rfl⟩
    go_wp2_with fail
    refine (nonzero42' _ _).mono ?_
    rintro e y ⟨rfl, rfl⟩
    go_wp2_with fail
    refine (nonzero42' _ _).mono ?_
    rintro e y ⟨rfl, rfl⟩
    go_wp2_with fail
    refine (unhide C4).mono ?_
    rintro e y ⟨rfl, rfl⟩
    go_wp2_with fail
    refine (nonzero42' _ _).mono ?_
    rintro e y ⟨rfl, rfl⟩
    go_wp2_with fail
    refine (nonzero42' _ _).mono ?_
    rintro e y ⟨rfl, rfl⟩
    go_wp2_with fail
    go_ret
    exact ⟨by simp <;> omega, unhide hbel⟩
  · have k1e := t3 hu0
    have k2e := t4 hu0
    clear t1 t2 t3 t4
    subst k1e k2e
    go_wp2_with fail
    refine (unhide C1).mono ?_
    rintro e y ⟨rfl, rfl⟩
    go_wp2_with fail
    refine (unhide C2).mono ?_
    rintro e y ⟨rfl, rfl⟩
    go_wp2_with fail
    refine (unhide C3).mono ?_
    rintro e y ⟨rfl, rfl⟩
    go_wp2_with fail
    refine (nonzero42' _ _).mono ?_
    rintro e y ⟨rfl, rfl⟩
    go_wp2_with fail
    refine (nonzero42' _ _).mono ?_
    rintro e y ⟨rfl, rfl⟩
    go_wp2_with fail
    refine (unhide C4).mono ?_
    rintro e y ⟨rfl, rfl⟩
    go_wp2_with fail
    refine (nonzero42' _ _).mono ?_
    rintro e y ⟨rfl, rfl⟩
    go_wp2_with fail
    refine (nonzero42' _ _).mono ?_
    rintro e y ⟨rfl, rfl⟩
    go_wp2_with fail
    go_ret
    exact ⟨by simp <;> omega, unhide hbel⟩

end Go.Proofs.Qxb6603397a

/-
  The walk of FnHeldVotersAddAgainAddsNothing where both lists increase.
-/
import Derived.Test.Qxb6603397aWalk6
namespace Go.Proofs.Qxb6603397a
open Go.RowKit Go.Maps

theorem news_sub (X L : List Int) {x : Int} (h : x ∈ X) : x ∈ L ++ news X L := by
  rw [List.mem_append, news_eq, List.mem_filter]
  cases hb : inB L x with
  | true => exact .inl (inB_iff.1 hb)
  | false => exact .inr ⟨h, by simp⟩

theorem news_again (X L : List Int) : news X (L ++ news X L) = [] := by
  rw [news_eq X (L ++ news X L), List.filter_eq_nil_iff]
  intro x hx
  rw [inB_iff.2 (news_sub X L hx)]
  simp

theorem inB_at {zs L : List Int} {k : Nat} (hk : k < zs.length) (h : ∀ x ∈ zs, x ∈ L) : inB L (zs.getD k 0) = true := by
  rw [inB_iff, List.getD, List.getElem?_eq_getElem hk]
  exact h _ (List.getElem_mem hk)

theorem news_le (X L : List Int) : (news X L).length ≤ X.length := by
  rw [news_eq]
  exact List.length_filter_le _ _

set_option maxHeartbeats 4000000 in
theorem walk6_main (a0 : Option Addr) (n0 c0 : Nat) (F : List Int) (a1 : Option Addr) (n1 c1 : Nat) (S : List Int) (hs : Bool) (a3 : Option Addr) (n3 c3 : Nat) (X : List Int) (w : World) (h0 : Sl w.heap.size w a0 n0 c0 F) (h1 : Sl w.heap.size w a1 n1 c1 S) (h3 : Sl w.heap.size w a3 n3 c3 X)
    (l0 : n0 ≤ 4096) (l1 : n1 ≤ 4096) (l3 : n3 ≤ 4096) (hF : incB F = true) (hX : incB X = true) :
    Calls Try.prog 6 #[.slice a0 n0 c0, .slice a1 n1 c1, .bool hs, .slice a3 n3 c3] w fun e w' => e = .returned (.bool true) ∧ Below w.heap.size w w' := by
  have q1 := neNil23
  have H := hide (And.intro h0 (And.intro h1 h3))
  have HF := hide hF
  have HX := hide hX
  have LF := hide h0.len
  have LS := hide h1.len
  have LX := hide h3.len
  clear h0 h1 h3 hF hX
  go_enter Try.func6, Try.ntmps6
  go_wp2_with fail
  refine (bytes29 a0 a1 a3 n0 c0 n1 c1 n3 c3 hs w (by unfold maxLen; omega) (by unfold maxLen; omega) (by unfold maxLen; omega)).mono ?_
  rintro e w' ⟨b, rfl, rfl, hb⟩
  have hb' := hb l0 l1 l3
  clear hb
  subst hb'
  rename World => w
  go_wp2_with fail
  refine (inc19 (unhide H).1).mono ?_
  rintro e x1 ⟨rfl, q, hx1⟩
  have B1 : Below w.heap.size w x1 := by rw [hx1]; exact below_of_drew q
  clear hx1
  rw [unhide HF]
  go_wp2_with fail
  refine (inc19 ((unhide H).2.2.below B1)).mono ?_
  rintro e x2 ⟨rfl, q', hx2⟩
  have B2 : Below w.heap.size w x2 := B1.trans (by rw [hx2]; exact (below_of_drew q').mono B1.size)
  clear hx2 B1
  rw [unhide HX]
  go_wp2_with fail
  refine (clone12 ((unhide H).1.below B2) B2.size (by omega)).mono ?_
  rintro e x3 ⟨b0, d0, rfl, _, o0, b3⟩
  have S0 := Sl.of_owns o0 (unhide H).1.u64
  have B3 := B2.trans (b3.mono B2.size)
  go_wp2_with fail
  refine (clone12 ((unhide H).2.1.below B3) B3.size (by omega)).mono ?_
  rintro e x4 ⟨b1, d1, rfl, _, o1, b4⟩
  have S1 := Sl.of_owns o1 (unhide H).2.1.u64
  have S0' := S0.below b4
  have B4 := B3.trans (b4.mono B3.size)
  go_wp2_with fail
  refine (clone12 ((unhide H).2.2.below B4) B4.size (by omega)).mono ?_
  rintro e x5 ⟨b3', d3, rfl, _, o3, b5⟩
  have S3 := Sl.of_owns o3 (unhide H).2.2.u64
  have S0'' := S0'.below (b5.mono b4.size)
  have S1' := S1.below b5
  have B5 := B4.trans (b5.mono B4.size)
  go_wp2_with fail
  refine (clone12 S0'' (Nat.le_trans b4.size b5.size) (by omega)).mono ?_
  rintro e x6 ⟨bf, df, rfl, _, of, b6⟩
  have Sf := Sl.of_owns of (unhide H).1.u64
  have T0 := (S0''.mono (Nat.le_trans b4.size b5.size)).below b6
  have T1 := (S1'.mono b5.size).below b6
  have T3 := S3.below b6
  have B6 := B5.trans (b6.mono B5.size)
  go_wp2_with fail
  refine (new20 hs Sf (T1.mono b6.size) (Nat.le_refl _) (by omega) (by omega)).mono ?_
  rintro e x7 ⟨m, rfl, hm, hH, b7⟩
  have ST : St w x7 x6.heap.size bf df m (if hs then F ++ S else F) b0 n0 d0 F b1 n1 d1 S b3' n3 d3 X :=
    ⟨hH, (T0.mono b6.size).below b7, (T1.mono b6.size).below b7, (T3.mono b6.size).below b7, B6.size, B6.trans (b7.mono B6.size)⟩
  have HST := hide ST
  have HM := hide hm
  clear ST hH b7 B6 T0 T1 T3 Sf of b6 B5 S1' S0'' S3 o3 b5 B4 S0' S1 o1 b4 B3 S0 o0 b3 B2 H hm
  generalize x6.heap.size = vb at *
  have hLl : (if hs then F ++ S else F).length ≤ 8192 := by
    have e1 := unhide LF
    have e2 := unhide LS
    split <;> simp <;> omega
  have HLL := hide hLl
  clear hLl
  have HLs : Hid ((∀ x ∈ F, x ∈ (if hs then F ++ S else F)) ∧ (hs = true → ∀ x ∈ S, x ∈ (if hs then F ++ S else F))) := hide ⟨fun x hx => by split <;> simp [hx], fun e x hx => by rw [if_pos e]; simp [hx]⟩
  generalize (if hs then F ++ S else F) = L at *
  go_wp2_with fail
  refine (add23 (unhide HST).held (unhide HF) (by rw [unhide LF]; omega) (by have := unhide HLL; omega) (unhide HST).list (Nat.le_of_lt (unhide HST).held.lt) (by omega)).mono ?_
  rintro e x8 ⟨ga, gc, m2, rfl, hA⟩
  have ST2 := hide ((unhide HST).added hA)
  clear hA HST
  go_wp2_with fail
  refine (hasSet26 (unhide ST2).held).mono ?_
  rintro e x9 ⟨rfl, hx9⟩
  subst hx9
  go_wp2_with fail
  refine (setLen27 (unhide ST2).held).mono ?_
  rintro e x10 ⟨rfl, hx10⟩
  subst hx10
  go_wp2_with fail
  refine (add23 (unhide ST2).held (unhide HF) (by rw [unhide LF]; omega) (by have := unhide HLL; have := news_le X L; have := unhide LX; simp; omega) (unhide ST2).list (Nat.le_of_lt (unhide ST2).held.lt) (by omega)).mono ?_
  rintro e x11 ⟨ga2, gc2, m3, rfl, hA⟩
  have ST3 := (unhide ST2).added hA
  have hn2 := hA.none (news_again X L)
  rw [news_again, List.append_nil] at ST3
  obtain ⟨rfl, rfl⟩ := hn2
  rw [news_again]
  clear hA ST2
  have HST := hide ST3
  clear ST3
  go_wp2_with fail
  refine (hasSet26 (unhide HST).held).mono ?_
  rintro e y1 ⟨rfl, hy1⟩
  subst hy1
  go_wp2_with fail
  refine (setLen27 (unhide HST).held).mono ?_
  rintro e y2 ⟨rfl, hy2⟩
  subst hy2
  go_wp2
  go_loopw [12] (fun i wr => ∃ k : Nat, k ≤ n3 ∧ i = .int .i64 k ∧ Hid (St w wr vb bf df m3 (L ++ news X L) b0 n0 d0 F b1 n1 d1 S b3' n3 d3 X)) (fun i _ => n3 - (intOf i).toNat)
  case atStart => exact ⟨0, Nat.zero_le _, rfl, HST⟩
  case round =>
    clear HST
    obtain ⟨k, hk, rfl, HST⟩ := hrel
    by_cases hlt : k < n3
    · obtain ⟨rb, roff, ra, _, cR⟩ := (unhide HST).list.at (Nat.le_of_lt (unhide HST).held.lt) (by omega)
      have c1 := cR k hlt
      have hxw := (unhide HST).list.wf_at k
      have hin := inB_at (zs := X) (L := L ++ news X L) (k := k) (by rw [unhide LX]; exact hlt) (fun x hx => news_sub X L hx)
      subst ra
      clear cR
      generalize X.getD k 0 = y at *
      go_wp2_with fail
      refine (has30 (unhide HST).held (unhide HF) (by rw [unhide LF]; omega) y hxw).mono ?_
      rintro e z1 ⟨rfl, hbz⟩
      rw [hin]
      have HST1 := hide ((unhide HST).below hbz)
      clear HST hbz hin
      go_wp2
      go_roundw
      case rel => exact ⟨k + 1, by omega, by go_num, HST1⟩
      case measure => simp [intOf]; omega
    · clear hk
      go_wp2
      go_loopw [13] (fun i wr => ∃ k : Nat, k ≤ n0 ∧ i = .int .i64 k ∧ Hid (St w wr vb bf df m3 (L ++ news X L) b0 n0 d0 F b1 n1 d1 S b3' n3 d3 X)) (fun i _ => n0 - (intOf i).toNat)
      case atStart => exact ⟨0, Nat.zero_le _, rfl, HST⟩
      case round =>
        clear HST
        obtain ⟨k, hk, rfl, HST⟩ := hrel
        by_cases hlt : k < n0
        · obtain ⟨rb, roff, ra, _, cR⟩ := (unhide HST).first.at (Nat.le_of_lt (unhide HST).held.lt) (by omega)
          have c1 := cR k hlt
          have hxw := (unhide HST).first.wf_at k
          have hin := inB_at (zs := F) (L := L ++ news X L) (k := k) (by rw [unhide LF]; exact hlt) (fun x hx => List.mem_append_left _ ((unhide HLs).1 x hx))
          subst ra
          clear cR
          generalize F.getD k 0 = y at *
          go_wp2_with fail
          refine (has30 (unhide HST).held (unhide HF) (by rw [unhide LF]; omega) y hxw).mono ?_
          rintro e z1 ⟨rfl, hbz⟩
          rw [hin]
          have HST1 := hide ((unhide HST).below hbz)
          clear HST hbz hin
          go_wp2
          go_roundw
          case rel => exact ⟨k + 1, by omega, by go_num, HST1⟩
          case measure => simp [intOf]; omega
        · clear hk
          cases hs with
          | false =>
            go_wp2
            go_ret
            exact ⟨rfl, (unhide HST).bel⟩
          | true =>
            go_wp2
            go_loopw [14] (fun i wr => ∃ k : Nat, k ≤ n1 ∧ i = .int .i64 k ∧ Hid (St w wr vb bf df m3 (L ++ news X L) b0 n0 d0 F b1 n1 d1 S b3' n3 d3 X)) (fun i _ => n1 - (intOf i).toNat)
            case atStart => exact ⟨0, Nat.zero_le _, rfl, HST⟩
            case round =>
              clear HST
              obtain ⟨k, hk, rfl, HST⟩ := hrel
              by_cases hlt : k < n1
              · obtain ⟨rb, roff, ra, _, cR⟩ := (unhide HST).set.at (Nat.le_of_lt (unhide HST).held.lt) (by omega)
                have c1 := cR k hlt
                have hxw := (unhide HST).set.wf_at k
                have hin := inB_at (zs := S) (L := L ++ news X L) (k := k) (by rw [unhide LS]; exact hlt) (fun x hx => List.mem_append_left _ ((unhide HLs).2 (by trivial) x hx))
                subst ra
                clear cR
                generalize S.getD k 0 = y at *
                go_wp2_with fail
                refine (has30 (unhide HST).held (unhide HF) (by rw [unhide LF]; omega) y hxw).mono ?_
                rintro e z1 ⟨rfl, hbz⟩
                rw [hin]
                have HST1 := hide ((unhide HST).below hbz)
                clear HST hbz hin
                go_wp2
                go_roundw
                case rel => exact ⟨k + 1, by omega, by go_num, HST1⟩
                case measure => simp [intOf]; omega
              · clear hk
                go_wp2
                go_ret
                exact ⟨rfl, (unhide HST).bel⟩

theorem walk6 (a0 : Option Addr) (n0 c0 : Nat) (F : List Int) (a1 : Option Addr) (n1 c1 : Nat) (S : List Int) (hs : Bool) (a3 : Option Addr) (n3 c3 : Nat) (X : List Int) (w : World) (h0 : Sl w.heap.size w a0 n0 c0 F) (h1 : Sl w.heap.size w a1 n1 c1 S) (h3 : Sl w.heap.size w a3 n3 c3 X) :
    Calls Try.prog 6 #[.slice a0 n0 c0, .slice a1 n1 c1, .bool hs, .slice a3 n3 c3] w fun e w' => e = .returned (.bool true) ∧ Below w.heap.size w w' := by
  by_cases hl : n0 ≤ 4096 ∧ n1 ≤ 4096 ∧ n3 ≤ 4096
  · obtain ⟨l0, l1, l3⟩ := hl
    by_cases hinc : incB F = true ∧ incB X = true
    · exact walk6_main a0 n0 c0 F a1 n1 c1 S hs a3 n3 c3 X w h0 h1 h3 l0 l1 l3 hinc.1 hinc.2
    · exact walk6_not a0 n0 c0 F a1 n1 c1 hs a3 n3 c3 X w h0 h3 l0 l1 l3 hinc
  · exact walk6_long a0 n0 c0 a1 n1 c1 hs a3 n3 c3 w (Nat.le_trans h0.cap h0.max) (Nat.le_trans h1.cap h1.max) (Nat.le_trans h3.cap h3.max) hl

end Go.Proofs.Qxb6603397a

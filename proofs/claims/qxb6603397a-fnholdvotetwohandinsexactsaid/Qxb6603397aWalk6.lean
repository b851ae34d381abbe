/-
  The walk of FnHeldVotersAddAgainAddsNothing.
-/
import Derived.Test.Qxb6603397aAddW
namespace Go.Proofs.Qxb6603397a
open Go.RowKit Go.Maps

/-- What stands in memory while the law looks at v. -/
structure St (w x : World) (vb : Nat) (fa : Option Addr) (fc : Nat) (m : Option Nat) (L : List Int) (a0 : Option Addr) (n0 c0 : Nat) (F : List Int) (a1 : Option Addr) (n1 c1 : Nat) (S : List Int) (a3 : Option Addr) (n3 c3 : Nat) (X : List Int) : Prop where
  held : Held x vb fa fc F m L
  first : Sl vb x a0 n0 c0 F
  set : Sl vb x a1 n1 c1 S
  list : Sl vb x a3 n3 c3 X
  old : w.heap.size ≤ vb
  bel : Below w.heap.size w x

section
variable {w x x' : World} {vb : Nat} {fa : Option Addr} {fc : Nat} {m : Option Nat} {L : List Int} {a0 : Option Addr} {n0 c0 : Nat} {F : List Int} {a1 : Option Addr} {n1 c1 : Nat} {S : List Int} {a3 : Option Addr} {n3 c3 : Nat} {X : List Int}

theorem St.below (h : St w x vb fa fc m L a0 n0 c0 F a1 n1 c1 S a3 n3 c3 X) (hb : Below x.heap.size x x') : St w x' vb fa fc m L a0 n0 c0 F a1 n1 c1 S a3 n3 c3 X := by
  have hv := hb.mono (Nat.le_of_lt h.held.lt)
  exact ⟨h.held.below hb, h.first.below hv, h.set.below hv, h.list.below hv, h.old, h.bel.trans (hb.mono h.bel.size)⟩

theorem St.added {Y : List Int} {a : Option Addr} {c : Nat} {m' : Option Nat} (h : St w x vb fa fc m L a0 n0 c0 F a1 n1 c1 S a3 n3 c3 X) (hA : Added x x' vb fa fc F m L Y a c m') : St w x' vb fa fc m' (L ++ Y) a0 n0 c0 F a1 n1 c1 S a3 n3 c3 X := by
  have hv : Below vb x x' := hA.keep.below (Nat.le_of_lt h.held.lt) (fun k hk => by
    rcases hk with rfl | hk
    · exact Nat.le_refl _
    · exact Nat.le_of_lt (h.held.ismap k hk).1)
  exact ⟨hA.held, h.first.below hv, h.set.below hv, h.list.below hv, h.old, h.bel.trans (hv.mono h.old)⟩
end

theorem below_of_drew {w : World} (q : Nat) : Below w.heap.size w (w.drewN q) := below_drewN (Below.refl _ _) q

set_option maxHeartbeats 1000000 in
/-- One of the lists is long: it answers at once. -/
theorem walk6_long (a0 : Option Addr) (n0 c0 : Nat) (a1 : Option Addr) (n1 c1 : Nat) (hs : Bool) (a3 : Option Addr) (n3 c3 : Nat) (w : World) (m0 : n0 ≤ maxLen) (m1 : n1 ≤ maxLen) (m3 : n3 ≤ maxLen) (hbig : ¬ (n0 ≤ 4096 ∧ n1 ≤ 4096 ∧ n3 ≤ 4096)) :
    Calls Try.prog 6 #[.slice a0 n0 c0, .slice a1 n1 c1, .bool hs, .slice a3 n3 c3] w fun e w' => e = .returned (.bool true) ∧ Below w.heap.size w w' := by
  go_enter Try.func6, Try.ntmps6
  go_wp2_with fail
  refine (bytes29 a0 a1 a3 n0 c0 n1 c1 n3 c3 hs w m0 m1 m3).mono ?_
  rintro e w' ⟨b, rfl, rfl, _⟩
  unfold maxLen at m0 m1 m3
  cases b with
  | false =>
    go_wp2
    go_ret
    exact ⟨rfl, Below.refl _ _⟩
  | true =>
    by_cases h0 : n0 ≤ 4096
    · by_cases h1 : n1 ≤ 4096
      · have h3 : 4096 < n3 := by omega
        go_wp2
        go_ret
        exact ⟨rfl, Below.refl _ _⟩
      · go_wp2
        go_ret
        exact ⟨rfl, Below.refl _ _⟩
    · go_wp2
      go_ret
      exact ⟨rfl, Below.refl _ _⟩

set_option maxHeartbeats 1000000 in
/-- One of the two lists is not increasing. -/
theorem walk6_not (a0 : Option Addr) (n0 c0 : Nat) (F : List Int) (a1 : Option Addr) (n1 c1 : Nat) (hs : Bool) (a3 : Option Addr) (n3 c3 : Nat) (X : List Int) (w : World) (h0 : Sl w.heap.size w a0 n0 c0 F) (h3 : Sl w.heap.size w a3 n3 c3 X)
    (l0 : n0 ≤ 4096) (l1 : n1 ≤ 4096) (l3 : n3 ≤ 4096) (hnot : ¬ (incB F = true ∧ incB X = true)) :
    Calls Try.prog 6 #[.slice a0 n0 c0, .slice a1 n1 c1, .bool hs, .slice a3 n3 c3] w fun e w' => e = .returned (.bool true) ∧ Below w.heap.size w w' := by
  have H := hide (And.intro h0 h3)
  have HN := hide hnot
  clear h0 h3 hnot
  go_enter Try.func6, Try.ntmps6
  go_wp2_with fail
  refine (bytes29 a0 a1 a3 n0 c0 n1 c1 n3 c3 hs w (by unfold maxLen; omega) (by unfold maxLen; omega) (by unfold maxLen; omega)).mono ?_
  rintro e w' ⟨b, rfl, rfl, hb⟩
  have hb' := hb l0 l1 l3
  clear hb
  subst hb'
  go_wp2_with fail
  refine (inc19 (unhide H).1).mono ?_
  rintro e w' ⟨rfl, q, rfl⟩
  by_cases hF : incB F = true
  · have hX : incB X = false := by
      cases hx : incB X with
      | false => rfl
      | true => exact absurd ⟨hF, hx⟩ (unhide HN)
    rw [hF]
    go_wp2_with fail
    refine (inc19 ((unhide H).2.below (below_of_drew q))).mono ?_
    rintro e w' ⟨rfl, q', rfl⟩
    rw [hX]
    go_wp2
    go_ret
    exact ⟨rfl, below_of_drew _⟩
  · have hF' : incB F = false := by simpa using hF
    rw [hF']
    clear hF
    go_wp2
    go_ret
    exact ⟨rfl, below_of_drew q⟩

end Go.Proofs.Qxb6603397a

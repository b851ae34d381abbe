/-
  (*heldVoters).add, whole.
-/
import Derived.Test.Qxb6603397aAddN
namespace Go.Proofs.Qxb6603397a
open Go.RowKit Go.Maps

/-- Those of X that L lacks. -/
def news (X L : List Int) : List Int := fr X L X.length

theorem news_eq (X L : List Int) : news X L = X.filter (fun x => !inB L x) := by
  unfold news fr
  rw [List.take_length]

/-- What add leaves: the list handed back (a, c), the set (m'), and what v holds. -/
structure Added (w w' : World) (vb : Nat) (fa : Option Addr) (fc : Nat) (F : List Int) (m : Option Nat) (L Y : List Int) (a : Option Addr) (c : Nat) (m' : Option Nat) : Prop where
  none : Y = [] → a = none ∧ m' = m
  some : Y ≠ [] → a.isSome = true ∧ m'.isSome = true
  row : w'.ownsRow w.heap.size 39 1 (.slice a Y.length c) Y.length (vals Y)
  held : Held w' vb fa fc F m' (L ++ Y)
  keep : Keep (fun i => i = vb ∨ m = Option.some i) w w'

theorem add44 {w : World} {vb : Nat} {fa : Option Addr} {fc : Nat} {F : List Int} {m : Option Nat} {L : List Int} (h : Held w vb fa fc F m L) (hs : incB F = true) (hl : F.length ≤ 1000000) (hLl : L.length ≤ 1000000000)
    {B : Nat} {xa : Option Addr} {n xc : Nat} {X : List Int} (hX : Sl B w xa n xc X) (hB : B ≤ w.heap.size) (hbig : n ≤ 1000000) :
    Calls Try.prog 44 #[.pointer (some ⟨vb, 0, none⟩), .slice xa n xc] w fun e w' => ∃ a c m', e = .returned (.slice a (news X L).length c) ∧ Added w w' vb fa fc F m L (news X L) a c m' := by
  have hn := hX.len
  have e0 : news X L = fr X L n := by unfold news; rw [hn]
  rw [e0]
  by_cases hfr : fr X L n = []
  · refine (add44_nil w vb fa fc F m L h hs (by omega) xa n xc X hn hbig (hX.at hB) hX.wf_at hfr).mono fun e w' ⟨he, hb⟩ => ?_
    rw [hfr]
    exact ⟨none, 0, m, he, fun _ => ⟨rfl, rfl⟩, fun hne => absurd rfl hne, World.ownsRow_nil _ _ _ _, by rw [List.append_nil]; exact h.below hb, Keep.of_below hb⟩
  · cases m with
    | none =>
      refine (add44_none w vb fa fc F L h hs hl xa n xc X hn hbig (hX.at hB) hX.wf_at hfr).mono fun e w' ⟨g, cap, mb, he, _, hr, hH, hK⟩ => ?_
      exact ⟨_, _, _, he, fun e => absurd e hfr, fun _ => ⟨rfl, rfl⟩, hr, hH, ⟨hK.os, hK.tape, hK.output, hK.size, fun k hk hne => hK.block k hk (fun e => hne (.inl e))⟩⟩
    | some mb =>
      refine (add44_some w vb fa fc F mb L h hs (by omega) hLl xa n xc X hn hbig (hX.at hB) hX.wf_at hfr).mono fun e w' ⟨g, cap, he, hr, hH, hK⟩ => ?_
      exact ⟨_, _, _, he, fun e => absurd e hfr, fun _ => ⟨rfl, rfl⟩, hr, hH, ⟨hK.os, hK.tape, hK.output, hK.size, fun k hk hne => hK.block k hk (fun e => hne (.inr (by rw [e])))⟩⟩

set_option maxHeartbeats 400000 in
theorem add23 {w : World} {vb : Nat} {fa : Option Addr} {fc : Nat} {F : List Int} {m : Option Nat} {L : List Int} (h : Held w vb fa fc F m L) (hs : incB F = true) (hl : F.length ≤ 1000000) (hLl : L.length ≤ 1000000000)
    {B : Nat} {xa : Option Addr} {n xc : Nat} {X : List Int} (hX : Sl B w xa n xc X) (hB : B ≤ w.heap.size) (hbig : n ≤ 1000000) :
    Calls Try.prog 23 #[.pointer (some ⟨vb, 0, none⟩), .slice xa n xc] w fun e w' => ∃ a c m', e = .returned (.slice a (news X L).length c) ∧ Added w w' vb fa fc F m L (news X L) a c m' := by
  have H := hide (And.intro h (And.intro hs (And.intro hX hB)))
  clear h hs hX hB
  go_enter Try.func23, Try.ntmps23
  go_wp2_with fail
  refine (add44 (unhide H).1 (unhide H).2.1 hl hLl (unhide H).2.2.1 (unhide H).2.2.2 hbig).mono ?_
  rintro e w1 ⟨a, c, m', rfl, hA⟩
  have HA := hide hA
  clear hA
  go_wp2
  go_ret
  exact ⟨a, c, m', rfl, unhide HA⟩

end Go.Proofs.Qxb6603397a

/-
  ZZHoldVote on a holding that holds at most one vote.
-/
import Derived.Test.Qxb6603397aUnion2
namespace Go.Proofs.Qxb6603397a
open Go.RowKit Go.Maps

/-- One vote held, of one item: its validators are X. -/
structure One (w : World) (hb bm vm : Nat) (kl : Lit) (X : List Int) (vb : Nat) (fa : Option Addr) (fc : Nat) (iv sv : Value) : Prop where
  hold : Hold w hb bm vm iv [(vb, sv)] 1 ((DataW.map []).put kl (.lit (.int .i64 vb)))
  held : Held w vb fa fc X none X
  up : hb < vb
  far : iv.ownBlock ≠ some vb
  apart : ∀ b off, fa = some ⟨b, off, none⟩ → ¬ (b = hb ∨ b = vm ∨ iv.ownBlock = some b)

/-- The holding's state: 0: nothing is held; 1: one vote of one item, X; 2: one vote of two items. -/
def VState (w : World) (hb bm vm : Nat) (kl : Lit) (X : List Int) : Nat → Prop
  | 0 => Hold w hb bm vm (.slice none 0 0) [] 0 (.map [])
  | 1 => X ≠ [] ∧ ∃ vb fa fc iv sv, One w hb bm vm kl X vb fa fc iv sv
  | _ => ∃ iv items N D, Hold w hb bm vm iv items N D ∧ items.length = 2 ∧ Maps.size D = 1

theorem VState.below {w w' : World} {hb bm vm : Nat} {kl : Lit} {X : List Int} {st : Nat} (h : VState w hb bm vm kl X st) (hb' : Below w.heap.size w w') : VState w' hb bm vm kl X st := by
  match st, h with
  | 0, h => exact Hold.below h hb'
  | 1, ⟨hx, vb, fa, fc, iv, sv, h⟩ => exact ⟨hx, vb, fa, fc, iv, sv, h.hold.below hb', h.held.below hb', h.up, h.far, h.apart⟩
  | n + 2, ⟨iv, items, N, D, h, h1, h2⟩ => exact ⟨iv, items, N, D, h.below hb', h1, h2⟩

def vret (st : Nat) (X Y : List Int) : Nat := if st = 0 then Y.length else (news Y X).length
def vst (st : Nat) (X Y : List Int) : Nat := if st = 0 then (if Y = [] then 0 else 1) else (if news Y X = [] then 1 else 2)
def vlist (st : Nat) (X Y : List Int) : List Int := if st = 0 then Y else X

theorem size_one (kl : Lit) (d : DataW Unit) : Maps.size ((DataW.map []).put kl d) = 1 := by
  rw [size_put tidy_empty]
  simp [Maps.has, Maps.size]

theorem has_one {kl : Lit} (hk : WideAt.IsKeyLit kl) (d : DataW Unit) : Maps.has ((DataW.map []).put kl d) kl = true := has_put_same isMap_empty hk d
theorem at_one {kl : Lit} (hk : WideAt.IsKeyLit kl) (d z : DataW Unit) : ((DataW.map []).put kl d).atKey kl z = d := atKey_put_same isMap_empty hk d z

theorem tidy_one (kl : Lit) (d : DataW Unit) : Tidy ((DataW.map []).put kl d) := ⟨[(kl, d)], rfl, by simp⟩

/-- (*holding).holdVote. -/
theorem vote46 (sl ix se te : Int) (hd sr tr : List Value) (fb : Bool) (hA : Arrs hd sr tr) {hb bm vm : Nat} {X : List Int} {st : Nat} {w : World} {kl : Lit} (hkl : keyOf Try.prog 69 (.agg (keyL sl ix se te hd sr tr fb).toArray) = some kl)
    (hst : VState w hb bm vm kl X st) (hs1 : st ≤ 1) (hbv : bm < vm) (hinc : st = 1 → incB X = true ∧ X.length ≤ 1000000) {B : Nat} {va : Option Addr} {n vc : Nat} {Y : List Int} (hY : Sl B w va n vc Y) (hB : B ≤ w.heap.size) (hn : n ≤ 1000000) :
    Calls Try.prog 46 #[.pointer (some ⟨hb, 0, none⟩), .agg (attL (.slice va n vc) sl ix se te hd sr tr).toArray, .bool fb] w fun e w' => e = .returned (.int .i64 (vret st X Y)) ∧ (VState w' hb bm vm kl (vlist st X Y) (vst st X Y) ∧ Below bm w w') := by
  have hkey : WideAt.IsKeyLit kl := law69.key hkl
  have hlen := hY.len
  match st, hst, hs1 with
  | 0, hst, _ =>
    have hH : Hold w hb bm vm (.slice none 0 0) [] 0 (.map []) := hst
    have hlt := hH.lt
    have l1 := hH.lt1
    have l2 := hH.lt2
    by_cases hy : Y = []
    · subst hy
      have h0 : n = 0 := by rw [← hlen]; rfl
      subst h0
      refine (hold46_zero sl ix se te hd sr tr fb hA hb bm vm _ [] 0 _ w hH law69 kl hkl B va vc [] hY hB rfl).mono fun e w' ⟨he, hb'⟩ => ?_
      exact ⟨he, Hold.below hH hb', hb'.mono (by omega)⟩
    · have hpos : 0 < n := by rw [← hlen]; exact List.length_pos_iff.2 hy
      refine (hold46_new sl ix se te hd sr tr fb hA hb bm vm _ [] 0 _ w hH law69 kl hkl B va n vc Y hY hB hn rfl hpos (by simp) (by omega)).mono fun e w' ⟨he, vb, fa, fc, iv', h⟩ => ?_
      refine ⟨by rw [he]; simp [vret, hlen], ?_, ?_⟩
      · have e1 : vst 0 X Y = 1 := by simp [vst, hy]
        have e2 : vlist 0 X Y = Y := rfl
        rw [e1, e2]
        have hnew := h.new
        have hfar : ∀ g, iv'.ownBlock = some g → vb < g := fun g hg => (h.far g hg).resolve_left (by simp [Value.ownBlock])
        refine ⟨hy, vb, fa, fc, iv', .slice fa n fc, h.hold, h.held, by omega, fun e => by have := hfar vb e; omega, fun b off e => ?_⟩
        have hb1 := h.firstNew b off e
        have hb2 : b < vb := by
          rcases h.held.row.cell with h0 | ⟨b', off', e', hlt', _⟩
          · rw [hlen] at h0; omega
          · rw [e] at e'; cases e'; exact hlt'
        rintro (h' | h' | h')
        · omega
        · omega
        · have := hfar b h'; omega
      · refine h.keep.below (by omega) (fun k hk => ?_)
        rcases hk with rfl | rfl | hk
        · omega
        · omega
        · simp [Value.ownBlock] at hk
  | 1, ⟨hx, vb, fa, fc, iv, sv, h1⟩, _ =>
    have hlt := h1.hold.lt
    have l1 := h1.hold.lt1
    have l2 := h1.hold.lt2
    by_cases hy : news Y X = []
    · refine (hold46_same sl ix se te hd sr tr fb hA hb bm vm iv [(vb, sv)] 1 _ w h1.hold law69 kl hkl vb fa fc X h1.held (hinc rfl).1 (hinc rfl).2 (at_one hkey _ _) (has_one hkey _) B va n vc Y hY hB hn hy).mono fun e w' ⟨he, hb'⟩ => ?_
      refine ⟨by rw [he]; simp [vret, hy], ?_, hb'.mono (by omega)⟩
      have e1 : vst 1 X Y = 1 := by simp [vst, hy]
      rw [e1]
      exact ⟨hx, vb, fa, fc, iv, sv, h1.hold.below hb', h1.held.below hb', h1.up, h1.far, h1.apart⟩
    · refine (hold46_more sl ix se te hd sr tr fb hA hb bm vm iv [(vb, sv)] 1 _ w h1.hold law69 kl hkl vb fa fc X h1.held (hinc rfl).1 (hinc rfl).2 (at_one hkey _ _) (has_one hkey _) B va n vc Y hY hB hn hy h1.up h1.far h1.apart (by simp) (by omega)).mono fun e w' ⟨he, mb, ga, gc, iv', h⟩ => ?_
      refine ⟨by rw [he]; simp [vret], ?_, ?_⟩
      · have e1 : vst 1 X Y = 2 := by simp [vst, hy]
        rw [e1]
        refine ⟨iv', _, _, _, h.hold, rfl, ?_⟩
        rw [size_put (tidy_one kl _), has_one hkey, if_pos rfl, size_one]
      · refine h.keep.below (by omega) (fun k hk => ?_)
        have hup := h1.up
        rcases hk with rfl | rfl | rfl | hk
        · omega
        · omega
        · omega
        · have := (h1.hold.rows.lt k hk).1
          omega

end Go.Proofs.Qxb6603397a

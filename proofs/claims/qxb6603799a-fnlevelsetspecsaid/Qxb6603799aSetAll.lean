/-
  ZZSet, whole.
-/
import Derived.Test.Qxb6603799aPlain4
import Derived.Test.Qxb6603799aB10
namespace Go.Proofs.Qxb6603799a
open Go.RowKit Go.Maps

/-- The key list that is handed back. -/
structure Got (w : World) (ga : Option Addr) (ys : List Value) : Prop where
  cell : ys.length = 0 ∨ ∃ g, ga = some ⟨g, 0, none⟩ ∧ g < w.heap.size ∧ ∀ j u, ys[j]? = some u → w.cell? ⟨g, j, none⟩ = some u

theorem Got.step {w w' : World} {ga : Option Addr} {ys : List Value} (h : Got w ga ys) (hb : Below w.heap.size w w') : Got w' ga ys := by
  refine ⟨?_⟩
  rcases h.cell with h0 | ⟨g, h1, h2, h3⟩
  · exact .inl h0
  · exact .inr ⟨g, h1, Nat.lt_of_lt_of_le h2 hb.size, fun j u hj => (hb.cell (by exact h2)).trans (h3 j u hj)⟩

/-- The level behind the set. -/
def Aft (w : World) (lb mb : Nat) (rd : Int) (N : Nat) (D : DataW Value) (ys : List Value) : Prop :=
  ∃ ga gc, Lev w lb mb (.slice ga ys.length gc) rd N D ∧ Got w ga ys

theorem Keys.got {w w' : World} {lb mb : Nat} {ka : Option Addr} {kn kc : Nat} {xs : List Value} (h : Keys w ka kn kc xs) (hb : But2 lb mb w w') (hne : ∀ g, ka = some ⟨g, 0, none⟩ → g ≠ lb ∧ g ≠ mb) : Got w' ka xs := by
  refine ⟨?_⟩
  rcases h.shape with ⟨_, h0, _⟩ | ⟨g, h1, h2, h3, h4⟩
  · exact .inl (by rw [h.len, h0])
  · obtain ⟨n1, n2⟩ := hne g h1
    exact .inr ⟨g, h1, Nat.lt_of_lt_of_le h3 hb.size, fun j u hj => (World.cell?_of_block (w := w) (hb.block g h3 n1 n2)).trans (h4 j u hj)⟩

theorem set18_all {w : World} {lb mb : Nat} {ka : Option Addr} {kn kc : Nat} {xs : List Value} {rd : Int} {N : Nat} {D : DataW Value} (h : Lev w lb mb (.slice ka kn kc) rd N D) (hN : N ≤ 1000000) (hK : Keys w ka kn kc xs) (hkn : kn ≤ 1000000)
    (hne : ∀ g, ka = some ⟨g, 0, none⟩ → g ≠ lb ∧ g ≠ mb) (k : ByteArray) (hk : k.size ≤ maxLen) (va : Option Addr) (vn vc : Nat) (x l : Int) (fst : Bool)
    (hat : has D (.string k.data.toList) = true → ∃ ua un uc ux ul, D.atKey (.string k.data.toList) (.held zeroI) = .held (itemV (.slice ua un uc) ux ul)) :
    Calls Try.prog 18 #[.pointer (some ⟨lb, 0, none⟩), .string k, .agg #[.slice va vn vc, .int .u64 x, .int .u64 l], .bool fst] w fun e w' => e = .returned (.tuple #[]) ∧
      Aft w' lb mb rd (N + 1) (newD (fst && (x == 0)) D k.data.toList (.slice va vn vc) x l) (newK fst (has D (.string k.data.toList)) xs k) ∧ But2 lb mb w w' := by
  cases fst with
  | true =>
    refine (set18_first h hN k hk va vn vc x l).mono fun e w' ⟨he, h1, h2⟩ => ?_
    refine ⟨he, ⟨ka, kc, ?_, ?_⟩, But2.of_grown h2⟩
    · rw [newD_first] at h1
      have : newK true (has D (.string k.data.toList)) xs k = xs := by simp [newK]
      rw [this, hK.len]
      exact h1
    · have : newK true (has D (.string k.data.toList)) xs k = xs := by simp [newK]
      rw [this]
      exact hK.got (But2.of_grown h2) hne
  | false =>
    cases hh : has D (.string k.data.toList) with
    | true =>
      obtain ⟨ua, un, uc, ux, ul, hu⟩ := hat hh
      refine (set18_has h hN k hk va vn vc x l hh hu).mono fun e w' ⟨he, h1, h2⟩ => ?_
      have hx : newK false true xs k = xs := by simp [newK]
      rw [hx]
      refine ⟨he, ⟨ka, kc, ?_, hK.got h2 hne⟩, h2⟩
      rw [newD_later] at h1
      rw [hK.len]
      exact h1
    | false =>
      refine (set18_new h hN hK hkn k hk va vn vc x l hh).mono fun e w' ⟨he, ⟨g, cap, h1, h2, h3, h4⟩, h5⟩ => ?_
      have hx : newK false false xs k = xs ++ [.string k] := by simp [newK]
      rw [hx]
      refine ⟨he, ⟨some ⟨g, 0, none⟩, cap, ?_, ⟨.inr ⟨g, rfl, h4, h2⟩⟩⟩, h5⟩
      rw [newD_later] at h1
      have : (xs ++ [Value.string k]).length = kn + 1 := by simp [hK.len]
      rw [this]
      exact h1

end Go.Proofs.Qxb6603799a

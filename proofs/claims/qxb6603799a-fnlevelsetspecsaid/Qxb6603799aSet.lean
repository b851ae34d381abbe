/-
  ZZSet on a first level; the plain law of a script of sets.
-/
import Derived.Test.Qxb6603799aLev
namespace Go.Proofs.Qxb6603799a
open Go.RowKit Go.Maps

set_option maxHeartbeats 1000000 in
theorem set18_first {w : World} {lb mb : Nat} {kv : Value} {r : Int} {N : Nat} {D : DataW Value} (h : Lev w lb mb kv r N D) (hN : N ≤ 1000000) (k : ByteArray) (hk : k.size ≤ maxLen) (va : Option Addr) (vn vc : Nat) (x l : Int) :
    Calls Try.prog 18 #[.pointer (some ⟨lb, 0, none⟩), .string k, .agg #[.slice va vn vc, .int .u64 x, .int .u64 l], .bool true] w fun e w' => e = .returned (.tuple #[]) ∧ Lev w' lb mb kv r (N + 1) (setF D k.data.toList (.slice va vn vc) x l) ∧ w.grownBy w' (some mb) := by
  have H1 := h.kept (alloc_grown w (.cells #[.slice va vn vc, .int .u64 x, .int .u64 l] 39))
  have HH := hide H1
  clear h H1
  by_cases hx : x = 0
  · have e1 : Hid (setF D k.data.toList (.slice va vn vc) x l = D.del (.string k.data.toList)) := hide (if_pos hx)
    subst hx
    go_enter Try.func18, Try.ntmps18
    go_wp2_with fail
    refine (set26_del (unhide HH) k hk va vn vc l).mono ?_
    rintro e w1 ⟨rfl, H2, g2⟩
    have HF := hide (And.intro H2 g2)
    clear H2 g2
    go_wp2_with fail
    go_end0
    refine ⟨rfl, ?_, (grown_none (alloc_grown w _) _).trans (unhide HF).2⟩
    rw [unhide e1]
    exact ⟨(unhide HF).1.c0, (unhide HF).1.c1, (unhide HF).1.c2, (unhide HF).1.f1, (unhide HF).1.map.mono (by omega)⟩
  · have e1 : Hid (setF D k.data.toList (.slice va vn vc) x l = D.put (.string k.data.toList) (.held (itemV (.slice va vn vc) x l))) := hide (if_neg hx)
    go_enter Try.func18, Try.ntmps18
    go_wp2_with fail
    refine (set26_put (unhide HH) hN k hk va vn vc x l hx).mono ?_
    rintro e w1 ⟨rfl, H2, g2⟩
    have HF := hide (And.intro H2 g2)
    clear H2 g2
    go_wp2_with fail
    go_end0
    refine ⟨rfl, ?_, (grown_none (alloc_grown w _) _).trans (unhide HF).2⟩
    rw [unhide e1]
    exact (unhide HF).1

/-! ### Counting first places -/

/-- Of the first n places those that are their key's first and of which p holds. -/
def cntP (K : List (List UInt8)) (p : List UInt8 → Bool) : Nat → Nat
  | 0 => 0
  | n + 1 => cntP K p n + (match K[n]? with | some k => if (!(K.take n).any (· == k) && p k) = true then 1 else 0 | none => 0)

theorem cntP_succ {K : List (List UInt8)} {p : List UInt8 → Bool} {n : Nat} {k : List UInt8} (h : K[n]? = some k) : cntP K p (n + 1) = cntP K p n + if (!(K.take n).any (· == k) && p k) = true then 1 else 0 := by
  conv => lhs; unfold cntP
  rw [h]

theorem cntP_le (K : List (List UInt8)) (p : List UInt8 → Bool) (n : Nat) : cntP K p n ≤ n := by
  induction n with
  | zero => exact Nat.le_refl _
  | succ n ih =>
    unfold cntP
    split
    · split <;> omega
    · omega

theorem seen_succ {K : List (List UInt8)} {n : Nat} {k : List UInt8} (h : K[n]? = some k) (x : List UInt8) : (K.take (n + 1)).any (· == x) = ((K.take n).any (· == x) || k == x) := by
  rw [List.take_add_one, h, List.any_append]; simp

theorem cntP_part (K : List (List UInt8)) (p : List UInt8 → Bool) (k : List UInt8) (n : Nat) (hn : n ≤ K.length) :
    cntP K p n = cntP K (fun x => !(x == k) && p x) n + if ((K.take n).any (· == k) && p k) = true then 1 else 0 := by
  induction n with
  | zero => rfl
  | succ n ih =>
    have hk := List.getElem?_eq_getElem (show n < K.length by omega)
    rw [cntP_succ hk, cntP_succ hk, ih (by omega), seen_succ hk]
    generalize K[n] = kn
    by_cases he : kn = k
    · subst he
      cases (K.take n).any (· == kn) <;> cases p kn <;> simp
    · have h1 : (kn == k) = false := by simpa using he
      rw [h1]
      cases (K.take n).any (· == kn) <;> cases (K.take n).any (· == k) <;> cases p kn <;> cases p k <;> simp <;> omega

theorem cntP_congr {K : List (List UInt8)} {p q : List UInt8 → Bool} {n : Nat} (h : ∀ k ∈ K.take n, p k = q k) : cntP K p n = cntP K q n := by
  induction n with
  | zero => rfl
  | succ n ih =>
    have ih' := ih (fun k hk => h k (by rw [List.take_add_one]; exact List.mem_append_left _ hk))
    by_cases hn : n < K.length
    · have hk := List.getElem?_eq_getElem hn
      rw [cntP_succ hk, cntP_succ hk, ih', h K[n] (by rw [List.take_add_one, hk]; exact List.mem_append_right _ (by simp))]
    · unfold cntP
      rw [List.getElem?_eq_none (by omega), ih']

end Go.Proofs.Qxb6603799a

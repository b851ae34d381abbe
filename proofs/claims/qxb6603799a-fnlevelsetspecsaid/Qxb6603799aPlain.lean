/-
  What a script of sets on a first level leaves.
-/
import Derived.Test.Qxb6603799aSet
namespace Go.Proofs.Qxb6603799a
open Go.RowKit Go.Maps

def keyB (e : Ent) : List UInt8 := e.key.data.toList
def itemE (e : Ent) : DataW Value := .held (itemV e.val e.idx e.lease)

/-- The map behind the first n sets. -/
def mapF (F : List Ent) : Nat → DataW Value
  | 0 => .map []
  | n + 1 => match F[n]? with
    | some e => setF (mapF F n) (keyB e) e.val e.idx e.lease
    | none => mapF F n

theorem mapF_succ {F : List Ent} {n : Nat} {e : Ent} (h : F[n]? = some e) : mapF F (n + 1) = setF (mapF F n) (keyB e) e.val e.idx e.lease := by
  conv => lhs; unfold mapF
  rw [h]

theorem keyLit (k : List UInt8) : WideAt.IsKeyLit (.string k) := trivial

theorem tidy_setF {D : DataW Value} (h : Tidy D) (k : List UInt8) (v : Value) (x l : Int) : Tidy (setF D k v x l) := by
  unfold setF
  split
  · exact h.del _
  · exact h.put (keyLit k) _

theorem tidy_mapF (F : List Ent) (n : Nat) : Tidy (mapF F n) := by
  induction n with
  | zero => exact tidy_empty
  | succ n ih =>
    unfold mapF
    split
    · exact tidy_setF ih _ _ _ _
    · exact ih

theorem lit_ne {a b : List UInt8} (h : a ≠ b) : (Lit.string a : Lit) ≠ .string b := fun e => h (by injection e)

theorem has_setF_other {D : DataW Value} {k k' : List UInt8} (h : k' ≠ k) (v : Value) (x l : Int) : has (setF D k v x l) (.string k') = has D (.string k') := by
  unfold setF
  split
  · exact has_del_other (lit_ne h)
  · exact has_put_other (lit_ne h) _

theorem at_setF_other {D : DataW Value} {k k' : List UInt8} (h : k' ≠ k) (v : Value) (x l : Int) (z : DataW Value) : (setF D k v x l).atKey (.string k') z = D.atKey (.string k') z := by
  unfold setF
  split
  · exact atKey_del_other (lit_ne h) z
  · exact atKey_put_other (lit_ne h) _ z

theorem has_setF_same {D : DataW Value} (hD : Tidy D) (k : List UInt8) (v : Value) (x l : Int) : has (setF D k v x l) (.string k) = decide (x ≠ 0) := by
  unfold setF
  by_cases hx : x = 0
  · rw [if_pos hx, has_del_same]; simp [hx]
  · rw [if_neg hx, has_put_same hD.isMap (keyLit k)]; simp [hx]

theorem at_setF_same {D : DataW Value} (hD : Tidy D) (k : List UInt8) (v : Value) {x : Int} (hx : x ≠ 0) (l : Int) (z : DataW Value) : (setF D k v x l).atKey (.string k) z = .held (itemV v x l) := by
  unfold setF
  rw [if_neg hx]
  exact atKey_put_same hD.isMap (keyLit k) _ _

theorem size_setF {D : DataW Value} (hD : Tidy D) (k : List UInt8) (v : Value) (x l : Int) :
    size (setF D k v x l) + (if has D (.string k) = true then 1 else 0) = size D + (if has (setF D k v x l) (.string k) = true then 1 else 0) := by
  rw [has_setF_same hD]
  unfold setF
  by_cases hx : x = 0
  · rw [if_pos hx, size_del hD]; simp [hx]
  · rw [if_neg hx, size_put hD]
    cases has D (.string k) <;> simp [hx]

/-- What lastE's answer is. -/
theorem lastE_spec (F : List Ent) (k : List UInt8) (n : Nat) (hn : n ≤ F.length) :
    (lastE F k n = -1 ∧ ((keysL F).take n).any (· == k) = false) ∨ ∃ (j : Nat) (e : Ent), j < n ∧ lastE F k n = j ∧ F[j]? = some e ∧ keyB e = k ∧ ((keysL F).take n).any (· == k) = true := by
  induction n with
  | zero => exact .inl ⟨rfl, rfl⟩
  | succ n ih =>
    have hg := List.getElem?_eq_getElem (show n < F.length by omega)
    generalize F[n] = e at hg
    have hs := seen_succ (keysL_get hg) k
    cases hk : (e.key.data.toList == k) with
    | true =>
      refine .inr ⟨n, e, by omega, lastE_hit hg hk, hg, beq_iff_eq.1 hk, ?_⟩
      rw [hs, hk]; simp
    | false =>
      rw [lastE_miss hg hk, hs, hk, Bool.or_false]
      rcases ih (by omega) with h | ⟨j, e', h1, h2⟩
      · exact .inl h
      · exact .inr ⟨j, e', by omega, h2⟩

/-- The map and the last entries. -/
theorem mapF_spec (F : List Ent) (k : List UInt8) (n : Nat) (hn : n ≤ F.length) :
    (lastE F k n = -1 → has (mapF F n) (.string k) = false) ∧
    (∀ (j : Nat) (e : Ent), lastE F k n = j → F[j]? = some e → has (mapF F n) (.string k) = decide (e.idx ≠ 0) ∧ (e.idx ≠ 0 → ∀ z, (mapF F n).atKey (.string k) z = itemE e)) := by
  induction n with
  | zero =>
    refine ⟨fun _ => rfl, fun j e hj => ?_⟩
    have : (-1 : Int) = j := hj
    omega
  | succ n ih =>
    have hg := List.getElem?_eq_getElem (show n < F.length by omega)
    generalize F[n] = e at hg
    rw [mapF_succ hg]
    cases hk : (e.key.data.toList == k) with
    | true =>
      have hke : keyB e = k := beq_iff_eq.1 hk
      rw [lastE_hit hg hk]
      refine ⟨fun h => by omega, fun j e' hj he' => ?_⟩
      have : n = j := by omega
      subst this
      rw [hg] at he'
      injection he' with he'
      subst he'
      rw [hke]
      exact ⟨has_setF_same (tidy_mapF F n) _ _ _ _, fun hx z => at_setF_same (tidy_mapF F n) _ _ hx _ _⟩
    | false =>
      have hke : k ≠ keyB e := fun h => by simp [keyB] at h; simp [h] at hk
      rw [lastE_miss hg hk, has_setF_other hke]
      obtain ⟨i1, i2⟩ := ih (by omega)
      refine ⟨i1, fun j e' hj he' => ?_⟩
      obtain ⟨j1, j2⟩ := i2 j e' hj he'
      exact ⟨j1, fun hx z => by rw [at_setF_other hke]; exact j2 hx z⟩

theorem size_mapF (F : List Ent) (n : Nat) (hn : n ≤ F.length) : size (mapF F n) = cntP (keysL F) (fun k => has (mapF F n) (.string k)) n := by
  induction n with
  | zero => rfl
  | succ n ih =>
    have hl : (keysL F).length = F.length := by simp [keysL]
    have hg := List.getElem?_eq_getElem (show n < F.length by omega)
    generalize F[n] = e at hg
    have hkg := keysL_get hg
    have hsz := size_setF (tidy_mapF F n) (keyB e) e.val e.idx e.lease
    have ih' := ih (by omega)
    rw [cntP_part _ _ (keyB e) n (by omega)] at ih'
    rw [mapF_succ hg, cntP_succ hkg, cntP_part _ _ (keyB e) n (by omega)]
    have hoff : cntP (keysL F) (fun x => !(x == keyB e) && has (setF (mapF F n) (keyB e) e.val e.idx e.lease) (.string x)) n = cntP (keysL F) (fun x => !(x == keyB e) && has (mapF F n) (.string x)) n := by
      apply cntP_congr
      intro x _
      cases hx : (x == keyB e) with
      | true => rfl
      | false =>
        have : x ≠ keyB e := by simpa using hx
        rw [has_setF_other this]
    rw [hoff]
    have hunseen : ((keysL F).take n).any (· == keyB e) = false → has (mapF F n) (.string (keyB e)) = false := by
      intro hs
      rcases lastE_spec F (keyB e) n (by omega) with ⟨h1, _⟩ | ⟨j, e', _, _, _, _, h2⟩
      · exact (mapF_spec F (keyB e) n (by omega)).1 h1
      · rw [hs] at h2; cases h2
    show size (setF (mapF F n) (keyB e) e.val e.idx e.lease) = _
    change _ = _ + _ + if (!((keysL F).take n).any (· == keyB e) && has (setF (mapF F n) (keyB e) e.val e.idx e.lease) (.string (keyB e))) = true then 1 else 0
    cases hs : ((keysL F).take n).any (· == keyB e) with
    | false =>
      rw [hs] at ih'
      rw [hunseen hs] at hsz
      simp at ih' hsz ⊢
      omega
    | true =>
      rw [hs] at ih'
      simp at ih' ⊢
      omega

def liveB (F : List Ent) (n : Nat) : List UInt8 → Bool := fun k => has (mapF F n) (.string k)

theorem size_live (F : List Ent) (n : Nat) (hn : n ≤ F.length) : size (mapF F n) = cntP (keysL F) (liveB F n) n := size_mapF F n hn

/-- One round of the reading loop. -/
theorem round6 {F : List Ent} {n : Nat} (hl : F.length = n) {i : Nat} {e : Ent} (hi : i < n) (he : F[i]? = some e) :
    (firstE F i e.key.data.toList = false → cntP (keysL F) (liveB F n) (i + 1) = cntP (keysL F) (liveB F n) i) ∧
    ∃ (j : Nat) (ej : Ent), lastE F e.key.data.toList n = j ∧ j < n ∧ F[j]? = some ej ∧
      ((ej.idx = 0 ∧ has (mapF F n) (.string e.key.data.toList) = false ∧ (mapF F n).atKey (.string e.key.data.toList) (.held zeroI) = .held zeroI ∧ cntP (keysL F) (liveB F n) (i + 1) = cntP (keysL F) (liveB F n) i) ∨
       (ej.idx ≠ 0 ∧ has (mapF F n) (.string e.key.data.toList) = true ∧ (mapF F n).atKey (.string e.key.data.toList) (.held zeroI) = itemE ej ∧ (firstE F i e.key.data.toList = true → cntP (keysL F) (liveB F n) (i + 1) = cntP (keysL F) (liveB F n) i + 1))) := by
  have hk := keysL_get he
  have hc := cntP_succ (p := liveB F n) hk
  have hf : firstE F i e.key.data.toList = !((keysL F).take i).any (· == e.key.data.toList) := rfl
  refine ⟨fun h => ?_, ?_⟩
  · rw [hc, ← hf, h]; simp
  · rcases lastE_spec F e.key.data.toList n (by omega) with ⟨_, h2⟩ | ⟨j, ej, h1, h2, h3, h4, h5⟩
    · exfalso
      have hm : e.key.data.toList ∈ (keysL F).take n := by
        have : ((keysL F).take n)[i]? = some e.key.data.toList := by rw [List.getElem?_take, if_pos hi]; exact hk
        exact List.mem_of_getElem? this
      rw [List.any_eq_false] at h2
      exact h2 _ hm (by simp)
    · refine ⟨j, ej, h2, h1, h3, ?_⟩
      obtain ⟨m1, m2⟩ := (mapF_spec F e.key.data.toList n (by omega)).2 j ej h2 h3
      by_cases hx : ej.idx = 0
      · left
        have hh : has (mapF F n) (.string e.key.data.toList) = false := by rw [m1]; simp [hx]
        refine ⟨hx, hh, atKey_of_not_has hh _, ?_⟩
        have : liveB F n e.key.data.toList = false := hh
        rw [hc, this]; simp
      · right
        have hh : has (mapF F n) (.string e.key.data.toList) = true := by rw [m1]; simp [hx]
        refine ⟨hx, hh, m2 hx _, fun hf' => ?_⟩
        have : liveB F n e.key.data.toList = true := hh
        rw [hc, ← hf, hf', this]; simp

end Go.Proofs.Qxb6603799a

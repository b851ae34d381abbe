/-
  What one set leaves on a level whose map holds entries.
-/
import Derived.Test.Qxb6603799aPlain
import Derived.Test.Qxb6603799aLater
namespace Go.Proofs.Qxb6603799a
open Go.RowKit Go.Maps

/-- The map behind the first n entries. -/
def mapP (F : List Ent) : Nat → DataW Value
  | 0 => .map []
  | n + 1 => match F[n]? with
    | some e => (mapP F n).put (.string (keyB e)) (itemE e)
    | none => mapP F n

theorem mapP_succ {F : List Ent} {n : Nat} {e : Ent} (h : F[n]? = some e) : mapP F (n + 1) = (mapP F n).put (.string (keyB e)) (itemE e) := by
  conv => lhs; unfold mapP
  rw [h]

theorem tidy_mapP (F : List Ent) (n : Nat) : Tidy (mapP F n) := by
  induction n with
  | zero => exact tidy_empty
  | succ n ih =>
    unfold mapP
    split
    · exact ih.put (keyLit _) _
    · exact ih

theorem mapP_spec (F : List Ent) (k : List UInt8) (n : Nat) (hn : n ≤ F.length) :
    (lastE F k n = -1 → has (mapP F n) (.string k) = false) ∧
    (∀ (j : Nat) (e : Ent), lastE F k n = j → F[j]? = some e → has (mapP F n) (.string k) = true ∧ ∀ z, (mapP F n).atKey (.string k) z = itemE e) := by
  induction n with
  | zero =>
    refine ⟨fun _ => rfl, fun j e hj => ?_⟩
    have : (-1 : Int) = j := hj
    omega
  | succ n ih =>
    have hg := List.getElem?_eq_getElem (show n < F.length by omega)
    generalize F[n] = e at hg
    rw [mapP_succ hg]
    cases hk : (e.key.data.toList == k) with
    | true =>
      have hke : keyB e = k := beq_iff_eq.1 hk
      rw [lastE_hit hg hk]
      refine ⟨fun h => by omega, fun j e' hj he' => ?_⟩
      have : n = j := by omega
      subst this
      rw [hg] at he'
      injection he' with he'
      subst he'
      rw [hke]
      exact ⟨has_put_same (tidy_mapP F n).isMap (keyLit _) _, fun z => atKey_put_same (tidy_mapP F n).isMap (keyLit _) _ _⟩
    | false =>
      have hke : k ≠ keyB e := fun h => by simp [keyB] at h; simp [h] at hk
      rw [lastE_miss hg hk, has_put_other (lit_ne hke)]
      obtain ⟨i1, i2⟩ := ih (by omega)
      refine ⟨i1, fun j e' hj he' => ?_⟩
      obtain ⟨j1, j2⟩ := i2 j e' hj he'
      exact ⟨j1, fun z => by rw [atKey_put_other (lit_ne hke)]; exact j2 z⟩

/-- A key is in the map just where it was met. -/
theorem has_mapP (F : List Ent) (k : List UInt8) (n : Nat) (hn : n ≤ F.length) : has (mapP F n) (.string k) = ((keysL F).take n).any (· == k) := by
  rcases lastE_spec F k n hn with ⟨h1, h2⟩ | ⟨j, e, h1, h2, h3, h4, h5⟩
  · rw [(mapP_spec F k n hn).1 h1, h2]
  · rw [((mapP_spec F k n hn).2 j e h2 h3).1, h5]

/-- wasIn. -/
theorem was_mapP (F : List Ent) (k : List UInt8) (n : Nat) (hn : n ≤ F.length) : decide (0 ≤ lastE F k n) = has (mapP F n) (.string k) := by
  rcases lastE_spec F k n hn with ⟨h1, _⟩ | ⟨j, e, h1, h2, h3, h4, h5⟩
  · rw [(mapP_spec F k n hn).1 h1, h1]; rfl
  · rw [((mapP_spec F k n hn).2 j e h2 h3).1, h2]; simp

def allB : List UInt8 → Bool := fun _ => true

theorem size_mapP (F : List Ent) (n : Nat) (hn : n ≤ F.length) : size (mapP F n) = cntP (keysL F) allB n := by
  induction n with
  | zero => rfl
  | succ n ih =>
    have hg := List.getElem?_eq_getElem (show n < F.length by omega)
    generalize F[n] = e at hg
    have hkg := keysL_get hg
    rw [mapP_succ hg, cntP_succ hkg, size_put (tidy_mapP F n), ih (by omega), has_mapP F (keyB e) n (by omega)]
    change _ = _ + if (!((keysL F).take n).any (· == keyB e) && true) = true then 1 else 0
    cases ((keysL F).take n).any (· == keyB e) <;> simp

/-- The map behind the set. -/
def newD (gone : Bool) (D : DataW Value) (k : List UInt8) (v : Value) (x l : Int) : DataW Value := if gone = true then D.del (.string k) else D.put (.string k) (.held (itemV v x l))

theorem newD_first (D : DataW Value) (k : List UInt8) (v : Value) (x l : Int) : setF D k v x l = newD (true && (x == 0)) D k v x l := by
  unfold setF newD
  by_cases hx : x = 0 <;> simp [hx]

theorem newD_later (D : DataW Value) (k : List UInt8) (v : Value) (x l : Int) : D.put (.string k) (.held (itemV v x l)) = newD (false && (x == 0)) D k v x l := by
  unfold newD
  simp

theorem has_newD_same {D : DataW Value} (hD : Tidy D) (gone : Bool) (k : List UInt8) (v : Value) (x l : Int) : has (newD gone D k v x l) (.string k) = !gone := by
  unfold newD
  cases gone with
  | true => rw [if_pos rfl, has_del_same]; rfl
  | false => rw [if_neg (by simp), has_put_same hD.isMap (keyLit k)]; rfl

theorem at_newD_same {D : DataW Value} (hD : Tidy D) (k : List UInt8) (v : Value) (x l : Int) (z : DataW Value) : (newD false D k v x l).atKey (.string k) z = .held (itemV v x l) := by
  unfold newD
  rw [if_neg (by simp)]
  exact atKey_put_same hD.isMap (keyLit k) _ _

theorem at_newD_gone (D : DataW Value) (k : List UInt8) (v : Value) (x l : Int) (z : DataW Value) : (newD true D k v x l).atKey (.string k) z = z := by
  unfold newD
  rw [if_pos rfl]
  exact atKey_del_same z

theorem has_newD_other {D : DataW Value} (gone : Bool) {k k' : List UInt8} (h : k' ≠ k) (v : Value) (x l : Int) : has (newD gone D k v x l) (.string k') = has D (.string k') := by
  unfold newD
  split
  · exact has_del_other (lit_ne h)
  · exact has_put_other (lit_ne h) _

theorem at_newD_other {D : DataW Value} (gone : Bool) {k k' : List UInt8} (h : k' ≠ k) (v : Value) (x l : Int) (z : DataW Value) : (newD gone D k v x l).atKey (.string k') z = D.atKey (.string k') z := by
  unfold newD
  split
  · exact atKey_del_other (lit_ne h) z
  · exact atKey_put_other (lit_ne h) _ z

/-- What the law wants the map's size to be. -/
def wantI (cnt : Nat) (gone was : Bool) : Int := (cnt : Int) - (if (gone && was) = true then 1 else 0) + (if (!gone && !was) = true then 1 else 0)

theorem size_newD {D : DataW Value} (hD : Tidy D) (gone : Bool) (k : List UInt8) (v : Value) (x l : Int) : (size (newD gone D k v x l) : Int) = wantI (size D) gone (has D (.string k)) := by
  unfold newD wantI
  cases gone with
  | true =>
    rw [if_pos rfl]
    have := size_del (k := .string k) hD
    cases hh : has D (.string k) with
    | true => rw [hh] at this; simp at this ⊢; omega
    | false => rw [hh] at this; simp at this ⊢; omega
  | false =>
    rw [if_neg (by simp), size_put hD]
    cases has D (.string k) <;> simp

/-- The key list behind the set. -/
def newK (fst was : Bool) (xs : List Value) (k : ByteArray) : List Value := if (!fst && !was) = true then xs ++ [.string k] else xs

theorem newK_get {fst was : Bool} {xs ys : List Value} {k : ByteArray} (h : newK fst was xs k = ys) {j : Nat} {u : Value} (hj : xs[j]? = some u) : ys[j]? = some u := by
  rw [← h]
  unfold newK
  split
  · rw [List.getElem?_append_left (List.getElem?_eq_some_iff.1 hj).1]; exact hj
  · exact hj

/-- One round of the loop over the entries. -/
theorem round4 {F : List Ent} {n : Nat} (hl : F.length = n) {i : Nat} {e : Ent} (hi : i < n) (he : F[i]? = some e) (gone : Bool) {k : List UInt8} (hk : e.key.data.toList ≠ k) (v : Value) (x l : Int) :
    ∃ (j : Nat) (ej : Ent), lastE F e.key.data.toList n = j ∧ j < n ∧ F[j]? = some ej ∧ has (newD gone (mapP F n) k v x l) (.string e.key.data.toList) = true ∧ (newD gone (mapP F n) k v x l).atKey (.string e.key.data.toList) (.held zeroI) = itemE ej := by
  rcases lastE_spec F e.key.data.toList n (by omega) with ⟨_, h2⟩ | ⟨j, ej, h1, h2, h3, h4, h5⟩
  · exfalso
    have hm : e.key.data.toList ∈ (keysL F).take n := by
      have : ((keysL F).take n)[i]? = some e.key.data.toList := by rw [List.getElem?_take, if_pos hi]; exact keysL_get he
      exact List.mem_of_getElem? this
    rw [List.any_eq_false] at h2
    exact h2 _ hm (by simp)
  · obtain ⟨m1, m2⟩ := (mapP_spec F e.key.data.toList n (by omega)).2 j ej h2 h3
    exact ⟨j, ej, h2, h1, h3, by rw [has_newD_other gone hk, m1], by rw [at_newD_other gone hk, m2]⟩

end Go.Proofs.Qxb6603799a

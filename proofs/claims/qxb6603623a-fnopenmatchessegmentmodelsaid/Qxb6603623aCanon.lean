/-
  The segment model, plainly: canonical paths are path.Clean's fixed points.
-/
import Derived.Test.Qxb6603623aRef
namespace Go.Proofs.Qxb6603623a
open Go.RowKit Go.Lib

/-! ### Segments -/

theorem els_ne (l : List UInt8) : Pa.els l ≠ [] := by
  cases l with
  | nil => simp [Pa.els]
  | cons c t =>
    unfold Pa.els
    split
    · simp
    · split <;> simp

theorem els_slash (t : List UInt8) : Pa.els (47 :: t) = [] :: Pa.els t := by
  rw [Pa.els]; simp

theorem els_cons {c : UInt8} (h : c ≠ 47) {t e : List UInt8} {r : List (List UInt8)} (he : Pa.els t = e :: r) : Pa.els (c :: t) = (c :: e) :: r := by
  rw [Pa.els, if_neg h, he]

theorem els_free (l : List UInt8) : ∀ e ∈ Pa.els l, slashB e = false := by
  induction l with
  | nil => simp [Pa.els, slashB]
  | cons c t ih =>
    by_cases h : c = 47
    · subst h
      rw [els_slash]
      intro e he
      rcases List.mem_cons.1 he with rfl | he
      · rfl
      · exact ih e he
    · cases hs : Pa.els t with
      | nil => exact absurd hs (els_ne t)
      | cons a r =>
        rw [els_cons h hs]
        rw [hs] at ih
        intro e he
        rcases List.mem_cons.1 he with rfl | he
        · have := ih a (by simp)
          simp only [slashB, List.any_cons, Bool.or_eq_false_iff] at this ⊢
          exact ⟨by simpa using h, this⟩
        · exact ih e (by simp [he])

theorem inter_els (l : List UInt8) : [47].intercalate (Pa.els l) = l := by
  induction l with
  | nil => rfl
  | cons c t ih =>
    by_cases h : c = 47
    · subst h
      rw [els_slash]
      cases hs : Pa.els t with
      | nil => exact absurd hs (els_ne t)
      | cons a r =>
        rw [hs] at ih
        rw [List.intercalate_cons_cons, ih]
        simp
    · cases hs : Pa.els t with
      | nil => exact absurd hs (els_ne t)
      | cons a r =>
        rw [els_cons h hs]
        rw [hs] at ih
        cases r with
        | nil => simpa using ih
        | cons b r' =>
          rw [List.intercalate_cons_cons] at ih ⊢
          rw [← ih]
          simp

theorem els_app {a : List UInt8} (h : slashB a = false) (t : List UInt8) : Pa.els (a ++ 47 :: t) = a :: Pa.els t := by
  induction a with
  | nil => exact els_slash t
  | cons c r ih =>
    simp only [slashB, List.any_cons, Bool.or_eq_false_iff] at h
    have hc : c ≠ 47 := by simpa using h.1
    rw [List.cons_append, els_cons hc (ih h.2)]

theorem els_inter {es : List (List UInt8)} (h0 : es ≠ []) (h : ∀ e ∈ es, slashB e = false) : Pa.els ([47].intercalate es) = es := by
  induction es with
  | nil => exact absurd rfl h0
  | cons a r ih =>
    cases r with
    | nil =>
      have : [47].intercalate [a] = a := by simp
      rw [this]
      exact els_one (h a (by simp))
    | cons b r' =>
      rw [List.intercalate_cons_cons, List.append_assoc, List.singleton_append, els_app (h a (by simp)), ih (by simp) (fun e he => h e (by simp [he]))]

theorem els_snoc (q : List UInt8) : Pa.els (q ++ [47]) = Pa.els q ++ [[]] := by
  induction q with
  | nil => simp [Pa.els]
  | cons c t ih =>
    by_cases h : c = 47
    · subst h
      rw [List.cons_append, els_slash, els_slash, ih]; rfl
    · cases hs : Pa.els t with
      | nil => exact absurd hs (els_ne t)
      | cons a r =>
        rw [hs] at ih
        rw [List.cons_append, els_cons h ih, els_cons h hs]; rfl

/-! ### Canonical -/

def properB (g : List UInt8) : Bool := g != [] && (g != [46] && g != [46, 46])

/-- One segment of an unrooted path met; none: refused. -/
def seg (o : Option Bool) (g : List UInt8) : Option Bool :=
  match o with
  | none => none
  | some seen => if g = [] ∨ g = [46] then none else if g = [46, 46] then (if seen then none else some false) else some true

def canonU (es : List (List UInt8)) : Bool := (es.foldl seg (some false)).isSome

def canonL (s : List UInt8) : Bool :=
  if s = [] then false else if s.head? = some 47 then (Pa.els (s.drop 1)).all properB else if s = [46] then true else canonU (Pa.els s)

def fixedL (p : List UInt8) : Bool :=
  p == [47] || (canonL p || (decide (2 ≤ p.length) && (p.getLast? == some 47 && canonL (p.take (p.length - 1)))))

theorem seg_none (es : List (List UInt8)) : es.foldl seg none = none := by
  induction es with
  | nil => rfl
  | cons a r ih => simpa [seg] using ih

/-- What path.Clean keeps, the last first. -/
def good (rooted : Bool) : List (List UInt8) → Prop
  | [] => True
  | x :: r => (x ≠ [] ∧ x ≠ [46] ∧ slashB x = false) ∧ (x = [46, 46] → rooted = false ∧ ∀ y ∈ r, y = [46, 46]) ∧ good rooted r

theorem good_step {rooted : Bool} {st : List (List UInt8)} (h : good rooted st) {e : List UInt8} (he : slashB e = false) : good rooted (Pa.cleanStep rooted st e) := by
  unfold Pa.cleanStep
  split
  · exact h
  · rename_i h1
    have h1' : e ≠ [] ∧ e ≠ [46] := ⟨fun x => h1 (.inl x), fun x => h1 (.inr x)⟩
    split
    · rename_i h2
      cases st with
      | nil =>
        dsimp only
        cases rooted with
        | true => exact h
        | false => exact ⟨⟨h1'.1, h1'.2, he⟩, fun _ => ⟨rfl, by simp⟩, trivial⟩
      | cons x r =>
        dsimp only
        obtain ⟨hx, hd, hr⟩ := h
        split
        · rename_i h3
          refine ⟨⟨h1'.1, h1'.2, he⟩, fun _ => ⟨(hd h3).1, ?_⟩, hx, hd, hr⟩
          intro y hy
          rcases List.mem_cons.1 hy with rfl | hy
          · exact h3
          · exact (hd h3).2 y hy
        · exact hr
    · rename_i h2
      exact ⟨⟨h1'.1, h1'.2, he⟩, fun x => absurd x h2, h⟩

theorem good_fold {rooted : Bool} {es : List (List UInt8)} (he : ∀ e ∈ es, slashB e = false) : ∀ {st}, good rooted st → good rooted (es.foldl (Pa.cleanStep rooted) st) := by
  induction es with
  | nil => intro st h; exact h
  | cons e r ih =>
    intro st h
    exact ih (fun x hx => he x (by simp [hx])) (good_step h (he e (by simp)))

theorem good_free {rooted : Bool} {st : List (List UInt8)} (h : good rooted st) : ∀ e ∈ st, slashB e = false := by
  induction st with
  | nil => simp
  | cons x r ih =>
    intro e he
    rcases List.mem_cons.1 he with rfl | he
    · exact h.1.2.2
    · exact ih h.2.2 e he

theorem good_ne {rooted : Bool} {st : List (List UInt8)} (h : good rooted st) : ∀ e ∈ st, e ≠ [] := by
  induction st with
  | nil => simp
  | cons x r ih =>
    intro e he
    rcases List.mem_cons.1 he with rfl | he
    · exact h.1.1
    · exact ih h.2.2 e he

theorem good_proper {st : List (List UInt8)} (h : good true st) : st.reverse.all properB = true := by
  rw [List.all_reverse]
  induction st with
  | nil => rfl
  | cons x r ih =>
    rw [List.all_cons, ih h.2.2, Bool.and_true]
    have h3 : x ≠ [46, 46] := fun e => by have := (h.2.1 e).1; cases this
    simp [properB, h.1.1, h.1.2.1, h3]

theorem good_canon {st : List (List UInt8)} (h : good false st) : st.reverse.foldl seg (some false) = some (st.any (fun x => x != [46, 46])) := by
  induction st with
  | nil => rfl
  | cons x r ih =>
    rw [List.reverse_cons, List.foldl_append, ih h.2.2]
    have h1 : ¬ (x = [] ∨ x = [46]) := fun e => e.elim h.1.1 h.1.2.1
    simp only [List.foldl_cons, List.foldl_nil, seg, if_neg h1, List.any_cons]
    by_cases hx : x = [46, 46]
    · have hr : r.any (fun x => x != [46, 46]) = false := by
        rw [List.any_eq_false]
        intro y hy
        rw [(h.2.1 hx).2 y hy]; simp
      rw [if_pos hx, hr, hx]; simp
    · rw [if_neg hx]; simp [hx]

theorem clean_canon (p : List UInt8) : Pa.cleanEls p = [47] ∨ canonL (Pa.cleanEls p) = true := by
  unfold Pa.cleanEls
  split
  · right; decide
  · dsimp only
    cases hr : (p.head? == some 47) with
    | true =>
      rw [if_pos rfl]
      have hg : good true ((Pa.els p).foldl (Pa.cleanStep true) []) := good_fold (els_free p) trivial
      generalize (Pa.els p).foldl (Pa.cleanStep true) [] = st at hg ⊢
      by_cases h0 : st = []
      · left; subst h0; rfl
      · right
        unfold canonL
        rw [if_neg (by simp), if_pos (by simp)]
        have : List.drop 1 (47 :: [47].intercalate st.reverse) = [47].intercalate st.reverse := rfl
        rw [this, els_inter (by simpa using h0) (fun e he => good_free hg e (by simpa using he))]
        exact good_proper hg
    | false =>
      rw [if_neg (by simp)]
      have hg : good false ((Pa.els p).foldl (Pa.cleanStep false) []) := good_fold (els_free p) trivial
      generalize (Pa.els p).foldl (Pa.cleanStep false) [] = st at hg ⊢
      split
      · right; decide
      · rename_i hb
        right
        have h0 : st ≠ [] := fun e => hb (by rw [e]; rfl)
        have he := els_inter (es := st.reverse) (by simpa using h0) (fun e he => good_free hg e (by simpa using he))
        unfold canonL
        rw [if_neg hb, if_neg]
        · split
          · rfl
          · rw [he]
            unfold canonU
            rw [good_canon hg]; rfl
        · intro hh
          cases hx : [47].intercalate st.reverse with
          | nil => exact hb hx
          | cons c t =>
            rw [hx] at hh he
            have hc : c = 47 := by simpa using hh
            subst hc
            rw [els_slash] at he
            have : ([] : List UInt8) ∈ st.reverse := by rw [← he]; simp
            exact good_ne hg [] (by simpa using this) rfl

theorem fold_proper {rooted : Bool} {es : List (List UInt8)} (h : es.all properB = true) : ∀ st, es.foldl (Pa.cleanStep rooted) st = es.reverse ++ st := by
  induction es with
  | nil => intro st; rfl
  | cons e r ih =>
    intro st
    rw [List.all_cons, Bool.and_eq_true] at h
    have hp := h.1
    simp only [properB, Bool.and_eq_true, bne_iff_ne] at hp
    have : Pa.cleanStep rooted st e = e :: st := by
      unfold Pa.cleanStep
      rw [if_neg (fun x => x.elim hp.1 hp.2.1), if_neg hp.2.2]
    rw [List.foldl_cons, this, ih h.2]
    simp

theorem fold_seg {es : List (List UInt8)} : ∀ st, (es.foldl seg (some (st.any (fun x => x != [46, 46])))).isSome = true → es.foldl (Pa.cleanStep false) st = es.reverse ++ st := by
  induction es with
  | nil => intro st _; rfl
  | cons e r ih =>
    intro st h
    rw [List.foldl_cons] at h
    by_cases h1 : e = [] ∨ e = [46]
    · simp [seg, h1, seg_none] at h
    · have : Pa.cleanStep false st e = e :: st ∧ (r.foldl seg (some ((e :: st).any (fun x => x != [46, 46])))).isSome = true := by
        by_cases h2 : e = [46, 46]
        · cases hs : st.any (fun x => x != [46, 46]) with
          | true => simp [seg, hs, h2, seg_none] at h
          | false =>
            constructor
            · unfold Pa.cleanStep
              rw [if_neg h1, if_pos h2]
              cases st with
              | nil => rfl
              | cons x q =>
                rw [List.any_cons, Bool.or_eq_false_iff] at hs
                have hx : x = [46, 46] := by simpa using hs.1
                dsimp only
                rw [if_pos hx]
            · rw [List.any_cons, hs, h2]
              simpa [seg, hs, h2] using h
        · constructor
          · unfold Pa.cleanStep
            rw [if_neg h1, if_neg h2]
          · have h1' : e ≠ [] ∧ e ≠ [46] := ⟨fun x => h1 (.inl x), fun x => h1 (.inr x)⟩
            have h3 : (e != [46, 46]) = true := by simpa using h2
            rw [List.any_cons, h3, Bool.true_or]
            simpa [seg, h1'.1, h1'.2, h2] using h
      rw [List.foldl_cons, this.1, ih _ this.2]
      simp

theorem canon_clean {s : List UInt8} (h : canonL s = true) : Pa.cleanEls s = s := by
  unfold canonL at h
  by_cases h0 : s = []
  · rw [if_pos h0] at h; cases h
  rw [if_neg h0] at h
  unfold Pa.cleanEls
  rw [if_neg h0]
  dsimp only
  by_cases hr : s.head? = some 47
  · rw [if_pos hr] at h
    cases s with
    | nil => exact absurd rfl h0
    | cons c t =>
      have hc : c = 47 := by simpa using hr
      subst hc
      rw [els_slash, List.foldl_cons]
      have e1 : Pa.cleanStep (List.head? (47 :: t) == some 47) [] [] = [] := by simp [Pa.cleanStep]
      have e2 : List.drop 1 (47 :: t) = t := rfl
      rw [e2] at h
      rw [e1, fold_proper h]
      rw [if_pos (by simp)]
      simp [inter_els]
  · rw [if_neg hr] at h
    have hb : (s.head? == some 47) = false := by simpa using hr
    rw [hb, if_neg (by simp)]
    by_cases hd : s = [46]
    · subst hd; decide
    · rw [if_neg hd] at h
      rw [fold_seg [] h]
      simp [inter_els, h0]

theorem canon_last {s : List UInt8} (h : canonL s = true) : s.getLast? ≠ some 47 := by
  intro hl
  obtain ⟨q, rfl⟩ : ∃ q, s = q ++ [47] := by
    rcases List.eq_nil_or_concat s with rfl | ⟨t, c, rfl⟩
    · cases hl
    · simp at hl; exact ⟨t, by simp [hl]⟩
  unfold canonL at h
  rw [if_neg (by simp)] at h
  cases q with
  | nil => simp [Pa.els, properB] at h
  | cons c t =>
    split at h
    · have : List.drop 1 (c :: t ++ [47]) = t ++ [47] := rfl
      rw [this, els_snoc, List.all_append] at h
      simp [properB] at h
    · rw [if_neg (by simp), els_snoc] at h
      unfold canonU at h
      rw [List.foldl_append] at h
      cases hx : (Pa.els (c :: t)).foldl seg (some false) with
      | none => rw [hx] at h; simp [seg] at h
      | some b => rw [hx] at h; simp [seg] at h

theorem clean_snoc {q : List UInt8} (h : q ≠ []) : Pa.cleanEls (q ++ [47]) = Pa.cleanEls q := by
  unfold Pa.cleanEls
  rw [if_neg (by simp), if_neg h, els_snoc]
  dsimp only
  rw [List.foldl_append]
  have e1 : (q ++ [47]).head? = q.head? := by
    cases q with
    | nil => exact absurd rfl h
    | cons => rfl
  have e2 : ∀ b st, [([] : List UInt8)].foldl (Pa.cleanStep b) st = st := by intro b st; simp [Pa.cleanStep]
  rw [e1, e2]

theorem resolve_fixed (p : List UInt8) : (resolveL p == p) = fixedL p := by
  rw [Bool.eq_iff_iff, beq_iff_eq]
  constructor
  · intro h
    unfold resolveL at h
    unfold fixedL
    split at h
    · rename_i hc
      rcases clean_canon p with h1 | h1
      · exact absurd h1 hc.2
      · have h0 : Pa.cleanEls p ≠ [] := fun e => by rw [e] at h1; cases h1
        have hl : 1 ≤ (Pa.cleanEls p).length := by
          cases hx : Pa.cleanEls p with
          | nil => exact absurd hx h0
          | cons => simp
        generalize Pa.cleanEls p = q at *
        subst h
        simp [h1]
        omega
    · rcases clean_canon p with h1 | h1
      · rw [h] at h1; simp [h1]
      · rw [h] at h1; simp [h1]
  · intro h
    unfold fixedL at h
    simp only [Bool.or_eq_true, Bool.and_eq_true, beq_iff_eq, decide_eq_true_eq] at h
    rcases h with rfl | h | ⟨h2, hl, h⟩
    · decide
    · unfold resolveL
      rw [suffix_last, if_neg (fun x => canon_last h (by simpa using x.1)), canon_clean h]
    · obtain ⟨q, rfl⟩ : ∃ q, p = q ++ [47] := by
        rcases List.eq_nil_or_concat p with rfl | ⟨t, c, rfl⟩
        · cases hl
        · simp at hl; exact ⟨t, by simp [hl]⟩
      have hq : (q ++ [47]).take ((q ++ [47]).length - 1) = q := by simp
      rw [hq] at h
      have h0 : q ≠ [] := fun e => by rw [e] at h; cases h
      have hne : q ≠ [47] := fun e => by rw [e] at h; simp [canonL, Pa.els, properB] at h
      unfold resolveL
      rw [clean_snoc h0, canon_clean h, suffix_last, if_pos ⟨by simp, hne⟩]

/-! ### The model -/

def bodyL (p : List UInt8) : List UInt8 := if p.head? = some 47 then p.drop 1 else p
def cutL (b : List UInt8) : List UInt8 := if b.getLast? = some 47 then b.take (b.length - 1) else b

/-- What the model asks, the path being fixed and no root. -/
def askL (rooted trailing : Bool) (es : List (List UInt8)) : Bool :=
  (rooted && (!trailing && (es.length == 1 && (es.head? == some [114, 111, 98, 111, 116, 115, 46, 116, 120, 116] || es.head? == some [102, 97, 118, 105, 99, 111, 110, 46, 105, 99, 111])))) ||
  ((rooted && (es.head? == some [46, 119, 101, 108, 108, 45, 107, 110, 111, 119, 110] && (decide (2 ≤ es.length) || trailing))) ||
  (!trailing && (Lib.hasSuffix (es.getLast?.getD []) [46, 114, 115, 115] || (Lib.hasSuffix (es.getLast?.getD []) [46, 120, 109, 108] || Lib.hasSuffix (es.getLast?.getD []) [46, 97, 116, 111, 109]))))

def modelL (p : List UInt8) : Bool :=
  if fixedL p = false ∨ p = [47] then false else askL (p.head? == some 47) ((bodyL p).getLast? == some 47) (Pa.els (cutL (bodyL p)))

theorem suf_els {sfx : List UInt8} (hs : slashB sfx = false) (l : List UInt8) : Lib.hasSuffix l sfx = Lib.hasSuffix ((Pa.els l).getLast?.getD []) sfx := by
  unfold Lib.hasSuffix
  induction l with
  | nil => simp [Pa.els]
  | cons c t ih =>
    have key : slashB (c :: t) = true → sfx.isSuffixOf (c :: t) = sfx.isSuffixOf t := by
      intro hc
      rw [Bool.eq_iff_iff, List.isSuffixOf_iff_suffix, List.isSuffixOf_iff_suffix, List.suffix_cons_iff]
      constructor
      · rintro (e | h)
        · rw [e, hc] at hs; cases hs
        · exact h
      · exact .inr
    by_cases h : c = 47
    · subst h
      rw [key (by simp [slashB]), ih, els_slash]
      cases hx : Pa.els t with
      | nil => exact absurd hx (els_ne t)
      | cons a r => rw [List.getLast?_cons_cons]
    · cases hx : Pa.els t with
      | nil => exact absurd hx (els_ne t)
      | cons a r =>
        rw [els_cons h hx]
        have hi := inter_els t
        rw [hx] at hi ih
        cases r with
        | nil =>
          have : a = t := by simpa using hi
          subst this
          rfl
        | cons b r' =>
          rw [List.getLast?_cons_cons] at ih ⊢
          rw [key ?_, ih]
          rw [← hi, List.intercalate_cons_cons]
          simp [slashB]

theorem suf_trail {b : List UInt8} (h : b.getLast? = some 47) {sfx : List UInt8} (hs : slashB sfx = false) (h0 : sfx ≠ []) : Lib.hasSuffix b sfx = false := by
  unfold Lib.hasSuffix
  rw [Bool.eq_false_iff]
  intro e
  rw [List.isSuffixOf_iff_suffix] at e
  obtain ⟨t, rfl⟩ := e
  rw [List.getLast?_append] at h
  cases hl : sfx.getLast? with
  | none => exact h0 (List.getLast?_eq_none_iff.1 hl)
  | some c =>
    rw [hl] at h
    have hc : c = 47 := by simpa using h
    subst hc
    have : slashB sfx = true := by unfold slashB; rw [List.any_eq_true]; exact ⟨47, List.mem_of_getLast? hl, by simp⟩
    rw [hs] at this; cases this

theorem pre_els {a : List UInt8} (ha : slashB a = false) (t : List UInt8) : Lib.hasPrefix t (a ++ [47]) = ((Pa.els t).head? == some a && decide (2 ≤ (Pa.els t).length)) := by
  unfold Lib.hasPrefix
  rw [Bool.eq_iff_iff, List.isPrefixOf_iff_prefix, Bool.and_eq_true, beq_iff_eq, decide_eq_true_eq]
  constructor
  · rintro ⟨r, rfl⟩
    rw [List.append_assoc, List.singleton_append, els_app ha]
    refine ⟨rfl, ?_⟩
    cases hx : Pa.els r with
    | nil => exact absurd hx (els_ne r)
    | cons => simp
  · rintro ⟨h1, h2⟩
    have hi := inter_els t
    cases hx : Pa.els t with
    | nil => exact absurd hx (els_ne t)
    | cons e r =>
      rw [hx] at h1 h2 hi
      have : e = a := by simpa using h1
      subst this
      cases r with
      | nil => simp at h2
      | cons f r' =>
        rw [List.intercalate_cons_cons] at hi
        exact ⟨_, hi⟩

theorem one_els {a : List UInt8} (ha : slashB a = false) (t : List UInt8) : (t == a) = ((Pa.els t).length == 1 && (Pa.els t).head? == some a) := by
  rw [Bool.eq_iff_iff, Bool.and_eq_true, beq_iff_eq, beq_iff_eq, beq_iff_eq]
  constructor
  · rintro rfl
    rw [els_one ha]; simp
  · rintro ⟨h1, h2⟩
    have hi := inter_els t
    cases hx : Pa.els t with
    | nil => exact absurd hx (els_ne t)
    | cons e r =>
      rw [hx] at h1 h2 hi
      have hr : r = [] := by simpa using h1
      have he : e = a := by simpa using h2
      subst hr he
      simpa using hi.symm

theorem cut_trail {b : List UInt8} (h : b.getLast? = some 47) : b = cutL b ++ [47] := by
  unfold cutL
  rw [if_pos h]
  rcases List.eq_nil_or_concat b with rfl | ⟨t, c, rfl⟩
  · cases h
  · simp at h; simp [h]

theorem last_cons {c : UInt8} {t : List UInt8} (h : t ≠ []) : (c :: t).getLast? = t.getLast? := by
  cases t with
  | nil => exact absurd rfl h
  | cons a r => rw [List.getLast?_cons_cons]

theorem model_law (p : List UInt8) : openL p = modelL p := by
  unfold openL modelL
  rw [resolve_fixed]
  cases hf : fixedL p with
  | false => simp
  | true =>
    by_cases h47 : p = [47]
    · subst h47; decide
    rw [if_neg (by simp [h47]), Bool.true_and]
    have h0 : p ≠ [] := fun e => by rw [e] at hf; revert hf; decide
    cases hr : (p.head? == some 47) with
    | true =>
      cases p with
      | nil => exact absurd rfl h0
      | cons c t =>
        have hc : c = 47 := by simpa using hr
        subst hc
        have ht : t ≠ [] := fun e => h47 (by rw [e])
        have eb : bodyL (47 :: t) = t := by simp [bodyL]
        rw [eb]
        have el : (47 :: t).getLast? = t.getLast? := last_cons ht
        have pw : Lib.hasPrefix (47 :: t) [47, 46, 119, 101, 108, 108, 45, 107, 110, 111, 119, 110, 47] = Lib.hasPrefix t ([46, 119, 101, 108, 108, 45, 107, 110, 111, 119, 110] ++ [47]) := by
          simp [Lib.hasPrefix]
        have p1 : ((47 :: t) == [47, 114, 111, 98, 111, 116, 115, 46, 116, 120, 116]) = (t == [114, 111, 98, 111, 116, 115, 46, 116, 120, 116]) := by
          rw [Bool.eq_iff_iff]; simp
        have p2 : ((47 :: t) == [47, 102, 97, 118, 105, 99, 111, 110, 46, 105, 99, 111]) = (t == [102, 97, 118, 105, 99, 111, 110, 46, 105, 99, 111]) := by
          rw [Bool.eq_iff_iff]; simp
        rw [pw, p1, p2, pre_els (by decide), one_els (by decide), one_els (by decide)]
        cases hl : (t.getLast? == some 47) with
        | true =>
          have hl' : t.getLast? = some 47 := by simpa using hl
          rw [suf_trail (el.trans hl') (by decide) (by decide), suf_trail (el.trans hl') (by decide) (by decide), suf_trail (el.trans hl') (by decide) (by decide)]
          have et : Pa.els t = Pa.els (cutL t) ++ [[]] := by
            conv => lhs; rw [cut_trail hl']
            rw [els_snoc]
          rw [et]
          unfold askL
          cases hx : Pa.els (cutL t) with
          | nil => exact absurd hx (els_ne _)
          | cons a r => simp
        | false =>
          have hl' : ¬ t.getLast? = some 47 := by simpa using hl
          have ec : cutL t = t := by unfold cutL; rw [if_neg hl']
          rw [ec, suf_els (sfx := [46, 114, 115, 115]) (by decide), suf_els (sfx := [46, 120, 109, 108]) (by decide), suf_els (sfx := [46, 97, 116, 111, 109]) (by decide), els_slash]
          cases hx : Pa.els t with
          | nil => exact absurd hx (els_ne t)
          | cons a r =>
            rw [List.getLast?_cons_cons]
            unfold askL
            simp only [Bool.true_and, Bool.not_false, Bool.or_false, Bool.and_or_distrib_left, Bool.or_assoc]
    | false =>
      have hr' : ¬ p.head? = some 47 := by simpa using hr
      have eb : bodyL p = p := by unfold bodyL; rw [if_neg hr']
      rw [eb]
      have pf : ∀ q : List UInt8, (p == 47 :: q) = false := by
        intro q
        rw [Bool.eq_false_iff]
        intro e
        rw [beq_iff_eq] at e
        rw [e] at hr'; simp at hr'
      have pw : ∀ q : List UInt8, Lib.hasPrefix p (47 :: q) = false := by
        intro q
        rw [Bool.eq_false_iff]
        intro e
        unfold Lib.hasPrefix at e
        rw [List.isPrefixOf_iff_prefix] at e
        obtain ⟨r, rfl⟩ := e
        simp at hr'
      rw [pf, pf, pw]
      cases hl : (p.getLast? == some 47) with
      | true =>
        have hl' : p.getLast? = some 47 := by simpa using hl
        rw [suf_trail hl' (by decide) (by decide), suf_trail hl' (by decide) (by decide), suf_trail hl' (by decide) (by decide)]
        simp [askL]
      | false =>
        have hl' : ¬ p.getLast? = some 47 := by simpa using hl
        have ec : cutL p = p := by unfold cutL; rw [if_neg hl']
        rw [ec, suf_els (sfx := [46, 114, 115, 115]) (by decide), suf_els (sfx := [46, 120, 109, 108]) (by decide), suf_els (sfx := [46, 97, 116, 111, 109]) (by decide)]
        unfold askL
        simp only [Bool.false_and, Bool.false_or, Bool.not_false, Bool.true_and, Bool.or_assoc]

end Go.Proofs.Qxb6603623a

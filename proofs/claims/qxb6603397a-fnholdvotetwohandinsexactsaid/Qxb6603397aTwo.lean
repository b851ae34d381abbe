/-
  Two hand-ins, of one vote or of two.
-/
import Derived.Test.Qxb6603397aVst
namespace Go.Proofs.Qxb6603397a
open Go.RowKit Go.Maps

theorem keyL_get {sl ix se te : Int} {hd sr tr : List Value} {fb : Bool} (sv mv : Value) : ∀ j v, (keyL sl ix se te hd sr tr fb)[j]? = some v → (hvCells (keyL sl ix se te hd sr tr fb) sv mv)[0 + j]? = some v := fun j v h => by
  unfold hvCells
  rw [Nat.zero_add, List.getElem?_append_left (List.getElem?_eq_some_iff.1 h).1]
  exact h

/-- One vote held, of one item, new. -/
structure One7 (w : World) (hb bm vm : Nat) (kl : Lit) (K : List Value) (A : List Int) (vb : Nat) (fa : Option Addr) (fc : Nat) (iv : Value) : Prop where
  hold : Hold w hb bm vm iv [(vb, .slice fa A.length fc)] 1 ((DataW.map []).put kl (.lit (.int .i64 vb)))
  held : Held w vb fa fc A none A
  block : w.heap[vb]? = some (.cells (hvCells K (.slice fa A.length fc) (.map none)).toArray 72 (0, 0))
  up : hb < vb
  far : ∀ g, iv.ownBlock = some g → vb < g
  apart : ∀ b off, fa = some ⟨b, off, none⟩ → hb < b ∧ b < vb

/-- The state behind the first hand-in. -/
def S1 (w : World) (hb bm vm : Nat) (kl : Lit) (K : List Value) (A : List Int) : Prop :=
  (A = [] ∧ Hold w hb bm vm (.slice none 0 0) [] 0 (.map [])) ∨ (A ≠ [] ∧ ∃ vb fa fc iv, One7 w hb bm vm kl K A vb fa fc iv)

theorem One7.below {w w' : World} {hb bm vm : Nat} {kl : Lit} {K : List Value} {A : List Int} {vb : Nat} {fa : Option Addr} {fc : Nat} {iv : Value} (h : One7 w hb bm vm kl K A vb fa fc iv) (hb' : Below w.heap.size w w') : One7 w' hb bm vm kl K A vb fa fc iv :=
  ⟨h.hold.below hb', h.held.below hb', (hb'.block _ h.held.lt).trans h.block, h.up, h.far, h.apart⟩

theorem S1.below {w w' : World} {hb bm vm : Nat} {kl : Lit} {K : List Value} {A : List Int} (h : S1 w hb bm vm kl K A) (hb' : Below w.heap.size w w') : S1 w' hb bm vm kl K A := by
  rcases h with ⟨h0, h⟩ | ⟨h0, vb, fa, fc, iv, h⟩
  · exact .inl ⟨h0, h.below hb'⟩
  · exact .inr ⟨h0, vb, fa, fc, iv, h.below hb'⟩

theorem first46 (sl ix se te : Int) (hd sr tr : List Value) (fb : Bool) (hA : Arrs hd sr tr) {hb bm vm : Nat} {w : World} {kl : Lit} (hkl : keyOf Try.prog 69 (.agg (keyL sl ix se te hd sr tr fb).toArray) = some kl)
    (hH : Hold w hb bm vm (.slice none 0 0) [] 0 (.map [])) (hbv : bm < vm) {B : Nat} {va : Option Addr} {n vc : Nat} {Y : List Int} (hY : Sl B w va n vc Y) (hB : B ≤ w.heap.size) (hn : n ≤ 1000000) :
    Calls Try.prog 46 #[.pointer (some ⟨hb, 0, none⟩), .agg (attL (.slice va n vc) sl ix se te hd sr tr).toArray, .bool fb] w fun e w' => e = .returned (.int .i64 Y.length) ∧ (S1 w' hb bm vm kl (keyL sl ix se te hd sr tr fb) Y ∧ Below bm w w') := by
  have hlen := hY.len
  have hlt := hH.lt
  have l1 := hH.lt1
  have l2 := hH.lt2
  by_cases hy : Y = []
  · subst hy
    have h0 : n = 0 := by rw [← hlen]; rfl
    subst h0
    refine (hold46_zero sl ix se te hd sr tr fb hA hb bm vm _ [] 0 _ w hH law69 kl hkl B va vc [] hY hB rfl).mono fun e w' ⟨he, hb'⟩ => ?_
    exact ⟨he, .inl ⟨rfl, hH.below hb'⟩, hb'.mono (by omega)⟩
  · have hpos : 0 < n := by rw [← hlen]; exact List.length_pos_iff.2 hy
    refine (hold46_new sl ix se te hd sr tr fb hA hb bm vm _ [] 0 _ w hH law69 kl hkl B va n vc Y hY hB hn rfl hpos (by simp) (by omega)).mono fun e w' ⟨he, vb, fa, fc, iv', h⟩ => ?_
    subst hlen
    refine ⟨he, .inr ⟨hy, vb, fa, fc, iv', h.hold, h.held, h.block, by have := h.new; omega, fun g hg => (h.far g hg).resolve_left (by simp [Value.ownBlock]), fun b off e => ?_⟩, ?_⟩
    · have hb1 := h.firstNew b off e
      refine ⟨by omega, ?_⟩
      rcases h.held.row.cell with h0 | ⟨b', off', e', hlt', _⟩
      · omega
      · rw [e] at e'; cases e'; exact hlt'
    · refine h.keep.below (by omega) (fun k hk => ?_)
      rcases hk with rfl | rfl | hk
      · omega
      · omega
      · simp [Value.ownBlock] at hk

/-- An item of a vote: what is looked at. -/
structure VI (w : World) (lo : Nat) (D : DataW Unit) (vb : Nat) (ga : Option Addr) (gc : Nat) (Y : List Int) (K : List Value) (kl : Lit) : Prop where
  up : lo ≤ vb
  list : Sl w.heap.size w ga Y.length gc Y
  fst : ∀ b off, ga = some ⟨b, off, none⟩ → lo ≤ b
  cells : w.rangeAt vb 0 K
  at' : D.atKey kl .nil = .lit (.int .i64 vb)
  has : Maps.has D kl = true

theorem VI.keep {S : Nat → Prop} {w w' : World} {lo : Nat} {D : DataW Unit} {vb : Nat} {ga : Option Addr} {gc : Nat} {Y : List Int} {K : List Value} {kl : Lit} (h : VI w lo D vb ga gc Y K kl) (hk : Keep S w w') (hs : ∀ i, S i → i < lo) : VI w' lo D vb ga gc Y K kl :=
  ⟨h.up, (h.list.keep hk (fun b off e hS => by have := h.fst b off e; have := hs b hS; omega)).mono hk.size, h.fst, fun j v hj => (hk.cell (p := ⟨vb, 0 + j, none⟩) (World.block_lt_of_cell? w _ (h.cells j v hj)) (fun hS => by have := hs vb hS; have := h.up; omega)).trans (h.cells j v hj), h.at', h.has⟩

/-- Both votes' blocks stand. -/
def Apart (w : World) (a b : Nat) : Prop := a ≠ b ∧ ∃ ca cb ta tb, w.heap[a]? = some (.cells ca ta (0, 0)) ∧ w.heap[b]? = some (.cells cb tb (0, 0))

/-- The state behind the second hand-in. -/
inductive S2 (w : World) (hb bm vm : Nat) (K1 K2 : List Value) (kl1 kl2 : Lit) (A W : List Int) (same : Bool) : Prop
  | nothing {N : Nat} {D : DataW Unit} (hA : A = []) (hW : W = []) (hold : Hold w hb bm vm (.slice none 0 0) [] N D) (size : Maps.size D = 0)
  | first {iv : Value} {N : Nat} {D : DataW Unit} {vb : Nat} {ga : Option Addr} {gc : Nat} (hA : A ≠ []) (hW : W = []) (hold : Hold w hb bm vm iv [(vb, .slice ga A.length gc)] N D) (it : VI w bm D vb ga gc A K1 kl1) (size : Maps.size D = 1)
  | second {iv : Value} {N : Nat} {D : DataW Unit} {vb : Nat} {ga : Option Addr} {gc : Nat} (hA : A = []) (hW : W ≠ []) (hold : Hold w hb bm vm iv [(vb, .slice ga W.length gc)] N D) (it : VI w bm D vb ga gc W K2 kl2) (size : Maps.size D = 1)
  | bothSame {iv : Value} {N : Nat} {D : DataW Unit} {vb : Nat} {ga1 : Option Addr} {gc1 : Nat} {ga2 : Option Addr} {gc2 : Nat} (hA : A ≠ []) (hW : W ≠ []) (hs : same = true) (hold : Hold w hb bm vm iv [(vb, .slice ga1 A.length gc1), (vb, .slice ga2 W.length gc2)] N D)
      (it1 : VI w bm D vb ga1 gc1 A K1 kl1) (it2 : VI w bm D vb ga2 gc2 W K2 kl2) (size : Maps.size D = 1)
  | bothOther {iv : Value} {N : Nat} {D : DataW Unit} {vb1 vb2 : Nat} {ga1 : Option Addr} {gc1 : Nat} {ga2 : Option Addr} {gc2 : Nat} (hA : A ≠ []) (hW : W ≠ []) (hs : same = false) (hold : Hold w hb bm vm iv [(vb1, .slice ga1 A.length gc1), (vb2, .slice ga2 W.length gc2)] N D)
      (it1 : VI w bm D vb1 ga1 gc1 A K1 kl1) (it2 : VI w bm D vb2 ga2 gc2 W K2 kl2) (apart : Apart w vb1 vb2) (size : Maps.size D = 2)

theorem Hold.keepLo {S : Nat → Prop} {w w' : World} {hb bm vm : Nat} {iv : Value} {items : List (Nat × Value)} {N : Nat} {D : DataW Unit} (h : Hold w hb bm vm iv items N D) (hk : Keep S w w') (hs : ∀ i, S i → i < bm) (hv : bm < vm) : Hold w' hb bm vm iv items N D := by
  have l1 := h.lt1
  exact h.keep hk (fun e => by have := hs _ e; omega) (fun e => by have := hs _ e; omega) (fun e => by have := hs _ e; omega) (fun g hg e => by have := (h.rows.lt g hg).1; have := hs _ e; omega)

theorem S2.keep {S : Nat → Prop} {w w' : World} {hb bm vm : Nat} {K1 K2 : List Value} {kl1 kl2 : Lit} {A W : List Int} {same : Bool} (h : S2 w hb bm vm K1 K2 kl1 kl2 A W same) (hk : Keep S w w') (hs : ∀ i, S i → i < bm) (hv : bm < vm) : S2 w' hb bm vm K1 K2 kl1 kl2 A W same := by
  cases h with
  | nothing hA hW hold size => exact .nothing hA hW (hold.keepLo hk hs hv) size
  | first hA hW hold it size => exact .first hA hW (hold.keepLo hk hs hv) (it.keep hk hs) size
  | second hA hW hold it size => exact .second hA hW (hold.keepLo hk hs hv) (it.keep hk hs) size
  | bothSame hA hW hs' hold it1 it2 size => exact .bothSame hA hW hs' (hold.keepLo hk hs hv) (it1.keep hk hs) (it2.keep hk hs) size
  | bothOther hA hW hs' hold it1 it2 apart size =>
    obtain ⟨hne, ca, cb, ta, tb, h1, h2⟩ := apart
    refine .bothOther hA hW hs' (hold.keepLo hk hs hv) (it1.keep hk hs) (it2.keep hk hs) ⟨hne, ca, cb, ta, tb, (hk.block _ (Array.getElem?_eq_some_iff.1 h1).1 (fun e => ?_)).trans h1, (hk.block _ (Array.getElem?_eq_some_iff.1 h2).1 (fun e => ?_)).trans h2⟩ size
    · have := hs _ e; have := it1.up; omega
    · have := hs _ e; have := it2.up; omega

theorem One7.vi {w : World} {hb bm vm : Nat} {kl : Lit} {sl ix se te : Int} {hd sr tr : List Value} {fb : Bool} {A : List Int} {vb : Nat} {fa : Option Addr} {fc : Nat} {iv : Value} (hkey : WideAt.IsKeyLit kl) (h : One7 w hb bm vm kl (keyL sl ix se te hd sr tr fb) A vb fa fc iv) :
    VI w bm ((DataW.map []).put kl (.lit (.int .i64 vb))) vb fa fc A (keyL sl ix se te hd sr tr fb) kl := by
  have l1 := h.hold.lt1
  have hu := h.up
  exact ⟨by omega, h.held.row.mono (Nat.le_of_lt h.held.lt), fun b off e => by have := (h.apart b off e).1; omega, range_of h.block 0 _ (keyL_get _ _), at_one hkey _ _, has_one hkey _⟩

def wantL (same : Bool) (A B : List Int) : List Int := if same = true ∧ A ≠ [] then news B A else B

theorem isMap_one (kl : Lit) (d : DataW Unit) : IsMap ((DataW.map []).put kl d) := ⟨[(kl, d)], rfl⟩

theorem second46 (sl sl2 ix se te : Int) (hd sr tr : List Value) (fb fb2 : Bool) (hA : Arrs hd sr tr) {hb bm vm : Nat} {w : World} {kl1 kl2 : Lit} (hkl1 : keyOf Try.prog 69 (.agg (keyL sl ix se te hd sr tr fb).toArray) = some kl1) (hkl2 : keyOf Try.prog 69 (.agg (keyL sl2 ix se te hd sr tr fb2).toArray) = some kl2)
    {A : List Int} (hS : S1 w hb bm vm kl1 (keyL sl ix se te hd sr tr fb) A) (hbv : bm < vm) (iA : incB A = true) (lA : A.length ≤ 1000000) (same : Bool) (hs1 : same = true → sl = sl2 ∧ fb = fb2) (hs2 : same = false → kl1 ≠ kl2)
    {B : Nat} {va : Option Addr} {n vc : Nat} {Y : List Int} (hY : Sl B w va n vc Y) (hB : B ≤ w.heap.size) (hn : n ≤ 1000000) :
    Calls Try.prog 46 #[.pointer (some ⟨hb, 0, none⟩), .agg (attL (.slice va n vc) sl2 ix se te hd sr tr).toArray, .bool fb2] w fun e w' => e = .returned (.int .i64 (wantL same A Y).length) ∧
      (S2 w' hb bm vm (keyL sl ix se te hd sr tr fb) (keyL sl2 ix se te hd sr tr fb2) kl1 kl2 A (wantL same A Y) same ∧ Below bm w w') := by
  have hkey1 : WideAt.IsKeyLit kl1 := law69.key hkl1
  have hkey2 : WideAt.IsKeyLit kl2 := law69.key hkl2
  have hlen := hY.len
  rcases hS with ⟨rfl, hH⟩ | ⟨hne, vb, fa, fc, iv, h1⟩
  · have e : wantL same [] Y = Y := if_neg (by simp)
    rw [e]
    refine (first46 sl2 ix se te hd sr tr fb2 hA hkl2 hH hbv hY hB hn).mono fun e w' ⟨he, hS, hb'⟩ => ⟨he, ?_, hb'⟩
    rcases hS with ⟨h0, h⟩ | ⟨h0, vb, fa, fc, iv, h⟩
    · exact .nothing rfl h0 h rfl
    · exact .second rfl h0 h.hold (h.vi hkey2) (size_one _ _)
  · have hlt := h1.hold.lt
    have l1 := h1.hold.lt1
    have l2 := h1.hold.lt2
    have hup := h1.up
    have hvw := h1.held.lt
    cases same with
    | true =>
      obtain ⟨rfl, rfl⟩ := hs1 rfl
      obtain rfl : kl1 = kl2 := Option.some.inj (hkl1.symm.trans hkl2)
      have e : wantL true A Y = news Y A := if_pos ⟨rfl, hne⟩
      rw [e]
      by_cases hy : news Y A = []
      · refine (hold46_same sl ix se te hd sr tr fb hA hb bm vm iv _ 1 _ w h1.hold law69 kl1 hkl1 vb fa fc A h1.held iA lA (at_one hkey1 _ _) (has_one hkey1 _) B va n vc Y hY hB hn hy).mono fun e w' ⟨he, hb'⟩ => ?_
        refine ⟨by rw [he, hy]; rfl, ?_, hb'.mono (by omega)⟩
        exact .first hne hy (h1.hold.below hb') ((h1.below hb').vi hkey1) (size_one _ _)
      · refine (hold46_more sl ix se te hd sr tr fb hA hb bm vm iv _ 1 _ w h1.hold law69 kl1 hkl1 vb fa fc A h1.held iA lA (at_one hkey1 _ _) (has_one hkey1 _) B va n vc Y hY hB hn hy h1.up (fun e => by have := h1.far _ e; omega) (fun b off e => ?_) (by simp) (by omega)).mono fun e w' ⟨he, mb, ga, gc, iv', h⟩ => ?_
        · have h2 := h1.apart b off e
          rintro (h' | h' | h')
          · omega
          · omega
          · have := h1.far _ h'; omega
        refine ⟨he, ?_, ?_⟩
        · have hcells : w'.rangeAt vb 0 (keyL sl ix se te hd sr tr fb) := fun j v hj => by
            have hj' := (List.getElem?_eq_some_iff.1 hj).1
            rw [keyL_length hA] at hj'
            exact (h.cells (0 + j) (by omega)).trans ((h1.vi hkey1).cells j v hj)
          have hat := atKey_put_same (isMap_one kl1 (.lit (.int .i64 vb))) hkey1 (.lit (.int .i64 vb)) .nil
          have hhas := has_put_same (isMap_one kl1 (.lit (.int .i64 vb))) hkey1 (.lit (.int .i64 vb))
          refine .bothSame hne hy rfl h.hold ⟨by omega, h.held.row.mono (Nat.le_of_lt h.held.lt), fun b off e => by have := (h1.apart b off e).1; omega, hcells, hat, hhas⟩ ⟨by omega, Sl.of_owns h.row (fun x hx => ?_), fun b off e => ?_, hcells, hat, hhas⟩ ?_
          · rw [news_eq] at hx
            exact hY.u64 x (List.mem_filter.1 hx).1
          · have := (h.row.lt b (by rw [e]; rfl)).1
            omega
          · rw [size_put (tidy_one kl1 _), has_one hkey1, if_pos rfl, size_one]
        · refine h.keep.below (by omega) (fun k hk => ?_)
          rcases hk with rfl | rfl | rfl | hk
          · omega
          · omega
          · omega
          · have := h1.far k hk
            omega
    | false =>
      have hkne := hs2 rfl
      have e : wantL false A Y = Y := if_neg (by simp)
      rw [e]
      have hno : Maps.has ((DataW.map []).put kl1 (.lit (.int .i64 vb)) : DataW Unit) kl2 = false := (has_put_other (Ne.symm hkne) _).trans rfl
      by_cases hy : Y = []
      · subst hy
        have h0 : n = 0 := by rw [← hlen]; rfl
        subst h0
        refine (hold46_zero sl2 ix se te hd sr tr fb2 hA hb bm vm _ _ 1 _ w h1.hold law69 kl2 hkl2 B va vc [] hY hB hno).mono fun e w' ⟨he, hb'⟩ => ?_
        exact ⟨he, .first hne rfl (h1.hold.below hb') ((h1.below hb').vi hkey1) (size_one _ _), hb'.mono (by omega)⟩
      · have hpos : 0 < n := by rw [← hlen]; exact List.length_pos_iff.2 hy
        refine (hold46_new sl2 ix se te hd sr tr fb2 hA hb bm vm _ _ 1 _ w h1.hold law69 kl2 hkl2 B va n vc Y hY hB hn hno hpos (by simp) (by omega)).mono fun e w' ⟨he, vb2, ga, gc, iv', h⟩ => ?_
        subst hlen
        have hnew := h.new
        have hout : ∀ i, hb < i → i ≤ vb → ¬ (i = hb ∨ i = vm ∨ iv.ownBlock = some i) := by
          rintro i hi hi' (h' | h' | h')
          · omega
          · omega
          · have := h1.far _ h'; omega
        have hv1 := h1.vi hkey1
        refine ⟨he, .bothOther hne hy rfl h.hold ⟨hv1.up, ?_, hv1.fst, ?_, ?_, ?_⟩ ⟨by omega, h.held.row.mono (Nat.le_of_lt h.held.lt), fun b off e => by have := h.firstNew b off e; omega, range_of h.block 0 _ (keyL_get _ _), ?_, ?_⟩ ⟨by omega, _, _, _, _, (h.keep.block vb hvw (hout vb hup (Nat.le_refl _))).trans h1.block, h.block⟩ ?_, ?_⟩
        · exact (hv1.list.keep h.keep (fun b off e => by have h2 := h1.apart b off e; exact hout b h2.1 (Nat.le_of_lt h2.2))).mono h.keep.size
        · exact fun j v hj => (h.keep.cell (p := ⟨vb, 0 + j, none⟩) hvw (hout vb hup (Nat.le_refl _))).trans (hv1.cells j v hj)
        · rw [atKey_put_other hkne]; exact hv1.at'
        · rw [has_put_other hkne]; exact hv1.has
        · exact atKey_put_same (isMap_one kl1 _) hkey2 _ _
        · exact has_put_same (isMap_one kl1 _) hkey2 _
        · rw [size_put (tidy_one kl1 _), hno, size_one]; rfl
        · refine h.keep.below (by omega) (fun k hk => ?_)
          rcases hk with rfl | rfl | hk
          · omega
          · omega
          · have := h1.far k hk
            omega

end Go.Proofs.Qxb6603397a

/-
  The walk of FnHeldVotersAddExact where both lists increase.
-/
import Derived.Test.Qxb6603397aWalk5
import Derived.Test.Qxb6603397aWalk6M
namespace Go.Proofs.Qxb6603397a
open Go.RowKit Go.Maps

theorem _root_.Go.World.ownsRow.base {w : World} {b b' : Nat} {e : TypeId} {size : Nat} {v : Value} {n : Nat} {xs : List Value} (h : w.ownsRow b e size v n xs) (hb : b' ≤ b) : w.ownsRow b' e size v n xs := by
  obtain ⟨h1, h2⟩ := h
  refine ⟨h1, ?_⟩
  rcases h2 with h2 | ⟨g, cap, cur, hv, hg, r⟩
  · exact .inl h2
  · exact .inr ⟨g, cap, cur, hv, Nat.le_trans hb hg, r⟩

theorem ownsRow_keep {S : Nat → Prop} {w w' : World} {b : Nat} {e : TypeId} {size : Nat} {v : Value} {n : Nat} {xs : List Value} (h : w.ownsRow b e size v n xs) (hk : Keep S w w') (hs : ∀ g, v.ownBlock = some g → ¬ S g) : w'.ownsRow b e size v n xs := by
  obtain ⟨h1, h2⟩ := h
  refine ⟨h1, ?_⟩
  rcases h2 with h2 | ⟨g, cap, cur, rfl, hg, hh, r⟩
  · exact .inl h2
  · exact .inr ⟨g, cap, cur, rfl, hg, by rw [hk.block g (Array.getElem?_eq_some_iff.1 hh).1 (hs g rfl)]; exact hh, r⟩

theorem ownsRow_later {w w' : World} {b : Nat} {e : TypeId} {size : Nat} {v : Value} {n : Nat} {xs : List Value} (h : w.ownsRow b e size v n xs) (hb : Below w.heap.size w w') : w'.ownsRow b e size v n xs := ownsRow_keep (S := fun _ => False) h (Keep.of_below hb) (fun _ _ h => h)

theorem ownsRow_shape {w : World} {b : Nat} {e : TypeId} {size : Nat} {v : Value} {n : Nat} {xs : List Value} (h : w.ownsRow b e size v n xs) : ∃ a c, v = .slice a n c := by
  rcases h.2 with ⟨rfl, rfl⟩ | ⟨g, cap, cur, rfl, _⟩
  · exact ⟨_, _, rfl⟩
  · exact ⟨_, _, rfl⟩

theorem inB_nil (x : Int) : inB [] x = false := rfl

theorem Sl.any {B : Nat} {w : World} {a : Option Addr} {n c : Nat} {zs : List Int} (h : Sl B w a n c zs) : ∃ B', Sl B' w a n c zs := ⟨B, h⟩

theorem Held.belowB {w w' : World} {vb B : Nat} {fa : Option Addr} {fc : Nat} {F : List Int} {m : Option Nat} {L : List Int} (h : Held w vb fa fc F m L) (hb : Below B w w') (hv : vb < B) (hm : ∀ mb, m = some mb → mb < B) : Held w' vb fa fc F m L :=
  ⟨(hb.cell (p := ⟨vb, 101, none⟩) hv).trans h.first, (hb.cell (p := ⟨vb, 102, none⟩) hv).trans h.vals, (hb.frozen (p := ⟨vb, 102, none⟩) hv).trans h.free,
    h.row.below (hb.mono (Nat.le_of_lt hv)), h.nomap, fun mb e => ⟨(h.ismap mb e).1, by
      obtain ⟨es, clock, hh, r⟩ := (h.ismap mb e).2
      exact ⟨es, clock, by rw [hb.block mb (hm mb e)]; exact hh, r⟩⟩⟩

theorem St.belowB {w x x' : World} {vb B : Nat} {fa : Option Addr} {fc : Nat} {m : Option Nat} {L : List Int} {a0 : Option Addr} {n0 c0 : Nat} {F : List Int} {a1 : Option Addr} {n1 c1 : Nat} {S : List Int} {a3 : Option Addr} {n3 c3 : Nat} {X : List Int}
    (h : St w x vb fa fc m L a0 n0 c0 F a1 n1 c1 S a3 n3 c3 X) (hb : Below B x x') (hv : vb < B) (hm : ∀ mb, m = some mb → mb < B) : St w x' vb fa fc m L a0 n0 c0 F a1 n1 c1 S a3 n3 c3 X := by
  have hv' := hb.mono (Nat.le_of_lt hv)
  exact ⟨h.held.belowB hb hv hm, h.first.below hv', h.set.below hv', h.list.below hv', h.old, h.bel.trans (hv'.mono h.old)⟩

/-- What stands in memory behind add: the state, the list handed back, the list wanted, the validators' own row. -/
structure Fin (w x : World) (vb : Nat) (fa : Option Addr) (fc : Nat) (m : Option Nat) (L : List Int) (a0 : Option Addr) (n0 c0 : Nat) (F : List Int) (a1 : Option Addr) (n1 c1 : Nat) (S : List Int) (a3 : Option Addr) (n3 c3 : Nat) (X : List Int) (ga : Option Addr) (gc : Nat) (wa : Option Addr) (wc : Nat) (Y : List Int) : Prop where
  st : St w x vb fa fc m L a0 n0 c0 F a1 n1 c1 S a3 n3 c3 X
  got : x.ownsRow vb 39 1 (.slice ga Y.length gc) Y.length (vals Y)
  want : x.ownsRow vb 39 1 (.slice wa Y.length wc) Y.length (vals Y)
  list : x.ownsRow w.heap.size 39 1 (.slice a3 n3 c3) n3 (vals X)
  far : ∀ g, (Value.slice a3 n3 c3).ownBlock = some g → g < vb
  wf : ∀ y ∈ Y, (Lit.int .u64 y).wf = true

section
variable {w x x' : World} {vb : Nat} {fa : Option Addr} {fc : Nat} {m : Option Nat} {L : List Int} {a0 : Option Addr} {n0 c0 : Nat} {F : List Int} {a1 : Option Addr} {n1 c1 : Nat} {S : List Int} {a3 : Option Addr} {n3 c3 : Nat} {X : List Int} {ga : Option Addr} {gc : Nat} {wa : Option Addr} {wc : Nat} {Y : List Int}

theorem Fin.below (h : Fin w x vb fa fc m L a0 n0 c0 F a1 n1 c1 S a3 n3 c3 X ga gc wa wc Y) (hb : Below x.heap.size x x') : Fin w x' vb fa fc m L a0 n0 c0 F a1 n1 c1 S a3 n3 c3 X ga gc wa wc Y :=
  ⟨h.st.below hb, ownsRow_later h.got hb, ownsRow_later h.want hb, ownsRow_later h.list hb, h.far, h.wf⟩

theorem Fin.gotS (h : Fin w x vb fa fc m L a0 n0 c0 F a1 n1 c1 S a3 n3 c3 X ga gc wa wc Y) : Sl x.heap.size x ga Y.length gc Y := Sl.of_owns h.got h.wf
theorem Fin.wantS (h : Fin w x vb fa fc m L a0 n0 c0 F a1 n1 c1 S a3 n3 c3 X ga gc wa wc Y) : Sl x.heap.size x wa Y.length wc Y := Sl.of_owns h.want h.wf
end

theorem news_wf {X : List Int} (L : List Int) (h : ∀ x ∈ X, (Lit.int .u64 x).wf = true) : ∀ y ∈ news X L, (Lit.int .u64 y).wf = true := fun y hy => h y (by rw [news_eq, List.mem_filter] at hy; exact hy.1)

/-- The list wanted was built first, then add was run. -/
theorem Fin.of_added {w x x' : World} {vb B7 : Nat} {fa : Option Addr} {fc : Nat} {m m' : Option Nat} {L : List Int} {a0 : Option Addr} {n0 c0 : Nat} {F : List Int} {a1 : Option Addr} {n1 c1 : Nat} {S : List Int} {a3 : Option Addr} {n3 c3 : Nat} {X : List Int} {ga : Option Addr} {gc : Nat} {wa : Option Addr} {wc : Nat}
    (hst : St w x vb fa fc m L a0 n0 c0 F a1 n1 c1 S a3 n3 c3 X) (hA : Added x x' vb fa fc F m L (news X L) ga gc m') (hw : x.ownsRow B7 39 1 (.slice wa (news X L).length wc) (news X L).length (vals (news X L)))
    (hl : x.ownsRow w.heap.size 39 1 (.slice a3 n3 c3) n3 (vals X)) (hf : ∀ g, (Value.slice a3 n3 c3).ownBlock = some g → g < vb) (hv : vb < B7) (hm : ∀ mb, m = some mb → mb < B7) :
    Fin w x' vb fa fc m' (L ++ news X L) a0 n0 c0 F a1 n1 c1 S a3 n3 c3 X ga gc wa wc (news X L) := by
  refine ⟨hst.added hA, hA.row.base (Nat.le_of_lt hst.held.lt), (ownsRow_keep hw hA.keep (fun g hg => ?_)).base (Nat.le_of_lt hv), ownsRow_keep hl hA.keep (fun g hg => ?_), hf, news_wf L hst.list.u64⟩
  · have := (hw.lt g hg).1
    rintro (h | h)
    · omega
    · have := hm g h
      omega
  · have := hf g hg
    rintro (h | h)
    · omega
    · have := (hst.held.ismap g h).1
      omega

end Go.Proofs.Qxb6603397a

/-
  (Attestation).data and ZZHoldVote up to holdVote.
-/
import Derived.Test.Qxb6603397aCells
import Derived.Maps.RangeWalk
namespace Go.Proofs.Qxb6603397a
open Go.RowKit Go.Maps

theorem i48 : (Try.prog.info? 48).map (·.size) = some 32 := by kernel_rfl
theorem i59 : (Try.prog.info? 59).map (·.size) = some 32 := by kernel_rfl
theorem i61 : (Try.prog.info? 61).map (·.size) = some 33 := by kernel_rfl
theorem i67 : (Try.prog.info? 67).map (·.size) = some 100 := by kernel_rfl
theorem i69 : (Try.prog.info? 69).map (·.size) = some 101 := by kernel_rfl
theorem i72 : (Try.prog.info? 72).map (·.size) = some 103 := by kernel_rfl
theorem i82 : (Try.prog.info? 82).map (·.size) = some 101 := by kernel_rfl

/-- Three arrays of 32 cells each. -/
structure Arrs (hd sr tr : List Value) : Prop where
  l1 : hd.length = 32
  l2 : sr.length = 32
  l3 : tr.length = 32
  c1 : ∀ v ∈ hd, v.oneCell' = true
  c2 : ∀ v ∈ sr, v.oneCell' = true
  c3 : ∀ v ∈ tr, v.oneCell' = true

section
variable {sl ix se te : Int} {hd sr tr : List Value} {v : Value}

theorem attL_length (h : Arrs hd sr tr) : (attL v sl ix se te hd sr tr).length = 101 := by
  simp [attL, datL_length h.l1 h.l2 h.l3]

theorem datL_one (h : Arrs hd sr tr) : ∀ x ∈ datL sl ix se te hd sr tr, x.oneCell' = true := by
  intro x hx
  simp only [datL, cpL, List.mem_cons, List.mem_append] at hx
  rcases hx with rfl | rfl | hx | (rfl | hx) | rfl | hx
  · rfl
  · rfl
  · exact h.c1 x hx
  · rfl
  · exact h.c2 x hx
  · rfl
  · exact h.c3 x hx

theorem attL_one (h : Arrs hd sr tr) (hv : v.oneCell' = true) : ∀ x ∈ attL v sl ix se te hd sr tr, x.oneCell' = true := by
  intro x hx
  rcases List.mem_cons.1 hx with rfl | hx
  · exact hv
  · exact datL_one h x hx
end

theorem heap3_0 (w : World) (A B C : Obj) : (((w.alloc A).alloc B).alloc C).heap[w.heap.size]? = some A := by
  rw [Below.heap_alloc _ _ _ (by simp; omega), Below.heap_alloc _ _ _ (by simp)]
  exact heap_alloc_new w A
theorem heap3_1 (w : World) (A B C : Obj) : (((w.alloc A).alloc B).alloc C).heap[w.heap.size + 1]? = some B := by
  rw [Below.heap_alloc _ _ _ (by simp)]
  have := heap_alloc_new (w.alloc A) B
  simpa using this
theorem heap3_2 (w : World) (A B C : Obj) : (((w.alloc A).alloc B).alloc C).heap[w.heap.size + 1 + 1]? = some C := by
  have := heap_alloc_new ((w.alloc A).alloc B) C
  simpa using this

theorem wpList_build_at {P : Program} {ops : Array Oper} {rest : List Oper} {o : Oper} {a : Act} {w : World} {Q : Exit → Act → World → Prop} (hg : o.guard = none) (t : TypeId) (parts : Array (Nat × Operand)) (ho : o.op = .build t parts) (ps : List (Nat × Value)) (hev : (parts.map fun (i, x) => (i, a.eval x)).toList = ps) (cells : Array Value)
    (hf : P.built t ps = some cells) (h : wpList P ops Q rest (a.put o.dst (.agg cells)) w) : wpList P ops Q (o :: rest) a w :=
  wpList_build hg t parts ho (by rw [hev, hf]; rfl) (by rw [hev, hf]; exact h)

theorem wpList_store_new {P : Program} {ops : Array Oper} {rest : List Oper} {o : Oper} {a : Act} {w : World} {Q : Exit → Act → World → Prop} (hgd : o.guard = none) (ty : TypeId) (x y : Operand) (ho : o.op = .store ty x y)
    (g : Nat) (cells : Array Value) (hx : a.eval x = .pointer (some ⟨g, 0, none⟩)) (hy : a.eval y = .agg cells) (t : TypeId) (old : Array Value) (W : World) (hW : w = W.alloc (.cells old t)) (hg : g = W.heap.size)
    (hi : (P.info? ty).map (·.size) = some cells.size) (hold : old.size = cells.size) (h1 : cells.all (·.oneCell') = true)
    (h : wpList P ops Q rest (a.put o.dst undef) (W.alloc (.cells cells t))) : wpList P ops Q (o :: rest) a w := by
  subst hW hg
  refine wpList_store_row hgd ty x y ho _ cells hx hy t old (heap_alloc_new W _) hi hold h1 ?_
  rw [World.setRow_alloc_new]
  exact h

theorem all_one {l : List Value} (h : ∀ v ∈ l, v.oneCell' = true) : l.toArray.all (·.oneCell') = true := all_oneCell_toArray h

/-- What ZZHoldVote does up to its call of holdVote. -/
structure Sizes (va : Option Addr) (vn vc : Nat) (sl ix se te : Int) (hd sr tr : List Value) : Prop where
  s1 : (Try.prog.info? 48).map (·.size) = some hd.toArray.size
  s2 : (Try.prog.info? 48).map (·.size) = some sr.toArray.size
  s3 : (Try.prog.info? 48).map (·.size) = some tr.toArray.size
  s4 : (Try.prog.info? 82).map (·.size) = some (attL (.slice va vn vc) sl ix se te hd sr tr).toArray.size
  s5 : Try.zeroCells82.size = (attL (.slice va vn vc) sl ix se te hd sr tr).toArray.size
  s6 : (attL (.slice va vn vc) sl ix se te hd sr tr).toArray.all (·.oneCell') = true
  arr : Arrs hd sr tr

theorem Sizes.mk' {va : Option Addr} {vn vc : Nat} {sl ix se te : Int} {hd sr tr : List Value} (hA : Arrs hd sr tr) : Sizes va vn vc sl ix se te hd sr tr := by
  refine ⟨?_, ?_, ?_, ?_, ?_, all_one (attL_one hA rfl), hA⟩
  · rw [i48]; simp [hA.l1]
  · rw [i48]; simp [hA.l2]
  · rw [i48]; simp [hA.l3]
  · rw [i82]; simp [attL_length hA]
  · rw [zero82_size]; simp [attL_length hA]

set_option maxRecDepth 100000 in
set_option maxHeartbeats 1000000 in
theorem wrap33 (hd sr tr : List Value) (hA : Arrs hd sr tr) (va : Option Addr) (vn vc : Nat) (sl ix se te : Int) (fb : Bool) (hp : Value) (w : World) (r : Int) (Post : World → Prop)
    (h46 : ∀ w', Below w.heap.size w w' → Calls Try.prog 46 #[hp, .agg (attL (.slice va vn vc) sl ix se te hd sr tr).toArray, .bool fb] w' fun e w'' => e = .returned (.int .i64 r) ∧ Post w'') :
    Calls Try.prog 33 #[hp, .slice va vn vc, .int .u64 sl, .int .u64 ix, .agg hd.toArray, .int .u64 se, .agg sr.toArray, .int .u64 te, .agg tr.toArray, .bool fb] w fun e w' => e = .returned (.int .i64 r) ∧ Post w' := by
  have H := hide (Sizes.mk' (va := va) (vn := vn) (vc := vc) (sl := sl) (ix := ix) (se := se) (te := te) hA)
  have H46 := hide h46
  clear hA h46
  go_enter Try.func33, Try.ntmps33
  go_wp2_with (first
    | (with_reducible (show wpList _ _ _ ({ dst := _, op := Op.load 48 (Operand.tmp 14), type := _, pos := _, after := _, guard := _ } :: _) _ _); refine wpList_load_row rfl 48 _ rfl w.heap.size rfl 48 hd.toArray (0, 0) _ (heap3_0 _ _ _ _) Try.underlying48 rfl (unhide H).s1 ?_; go_frame)
    | (with_reducible (show wpList _ _ _ ({ dst := _, op := Op.load 48 (Operand.tmp 16), type := _, pos := _, after := _, guard := _ } :: _) _ _); refine wpList_load_row rfl 48 _ rfl (w.heap.size + 1) rfl 48 sr.toArray (0, 0) _ (heap3_1 _ _ _ _) Try.underlying48 rfl (unhide H).s2 ?_; go_frame)
    | (with_reducible (show wpList _ _ _ ({ dst := _, op := Op.load 48 (Operand.tmp 18), type := _, pos := _, after := _, guard := _ } :: _) _ _); refine wpList_load_row rfl 48 _ rfl (w.heap.size + 1 + 1) rfl 48 tr.toArray (0, 0) _ (heap3_2 _ _ _ _) Try.underlying48 rfl (unhide H).s3 ?_; go_frame)
    | (with_reducible (show wpList _ _ _ ({ dst := some 28, op := Op.build 61 _, type := _, pos := _, after := _, guard := _ } :: _) _ _); refine wpList_build_at rfl 61 _ rfl [(0, .int .u64 se), (1, .agg sr.toArray)] (by simp [Act.eval]) _ (built61 se sr (unhide H).arr.l2) ?_; go_frame)
    | (with_reducible (show wpList _ _ _ ({ dst := some 31, op := Op.build 61 _, type := _, pos := _, after := _, guard := _ } :: _) _ _); refine wpList_build_at rfl 61 _ rfl [(0, .int .u64 te), (1, .agg tr.toArray)] (by simp [Act.eval]) _ (built61 te tr (unhide H).arr.l3) ?_; go_frame)
    | (with_reducible (show wpList _ _ _ ({ dst := _, op := Op.build 82 _, type := _, pos := _, after := _, guard := _ } :: _) _ _); refine wpList_build_at rfl 82 _ rfl [(0, .slice va vn vc), (1, .int .u64 sl), (2, .int .u64 ix), (3, .agg hd.toArray), (4, .agg (cpL se sr).toArray), (5, .agg (cpL te tr).toArray)] (by simp [Act.eval]) _ (built82 (v := .slice va vn vc) (unhide H).arr.l1 (unhide H).arr.l2 (unhide H).arr.l3 rfl) ?_; go_frame)
    | (with_reducible (show wpList _ _ _ ({ dst := _, op := Op.store 82 _ _, type := _, pos := _, after := _, guard := _ } :: _) _ _); refine wpList_store_new rfl 82 _ _ rfl (w.heap.size + 1 + 1 + 1) _ rfl rfl 82 Try.zeroCells82 _ rfl (by simp) (unhide H).s4 (unhide H).s5 (unhide H).s6 ?_; go_frame)
    | (with_reducible (show wpList _ _ _ ({ dst := _, op := Op.load 82 _, type := _, pos := _, after := _, guard := _ } :: _) _ _); refine wpList_load_row rfl 82 _ rfl (w.heap.size + 1 + 1 + 1) rfl 82 (attL (.slice va vn vc) sl ix se te hd sr tr).toArray (0, 0) _ (by have e := heap_alloc_new (((w.alloc (.cells hd.toArray 48)).alloc (.cells sr.toArray 48)).alloc (.cells tr.toArray 48)) (.cells (attL (.slice va vn vc) sl ix se te hd sr tr).toArray 82); simpa using e) Try.underlying82 rfl (unhide H).s4 ?_; go_frame))
  refine (unhide H46 _ ?_).mono ?_
  · exact ((((Below.refl _ _).alloc (Nat.le_refl _) _).alloc (by simp) _).alloc (by simp; omega) _).alloc (by simp; omega) _
  · rintro e w' ⟨rfl, hP⟩
    have HP := hide hP
    clear hP
    go_wp2
    go_ret
    exact ⟨rfl, unhide HP⟩

end Go.Proofs.Qxb6603397a

/-
  The cells of a vote: structs built of whole arrays.
-/
import Derived.Test.Qxb6603397aCount
import Derived.Deep.MidRow
import Derived.Deep.WholeRow
namespace Go.Proofs.Qxb6603397a
open Go.RowKit Go.Maps

theorem foldl_set (off : Nat) : ∀ (xs : List Value) (k : Nat) (pre rest : List Value), pre.length = off + k → xs.length ≤ rest.length →
    (xs.zipIdx k).foldl (fun (cs : Array Value) (p : Value × Nat) => cs.setIfInBounds (off + p.2) p.1) (pre ++ rest).toArray = (pre ++ xs ++ rest.drop xs.length).toArray
  | [], k, pre, rest, _, _ => by simp
  | x :: xs, k, pre, rest, hp, hl => by
    cases rest with
    | nil => simp at hl
    | cons r rest =>
      rw [List.zipIdx_cons, List.foldl_cons]
      have e : ((pre ++ r :: rest).toArray.setIfInBounds (off + k) x) = ((pre ++ [x]) ++ rest).toArray := by
        rw [← hp]
        simp
      show (xs.zipIdx (k + 1)).foldl _ ((pre ++ r :: rest).toArray.setIfInBounds (off + k) x) = _
      rw [e, foldl_set off xs (k + 1) (pre ++ [x]) rest (by simp; omega) (by simpa using hl)]
      simp

/-- One field more, right behind those that are laid. -/
theorem fill_next {place : Nat → Option (Nat × Nat)} {i : Nat} {v : Value} {ps : List (Nat × Value)} {pre rest : List Value} {xs : List Value} (hx : v.cells = xs.toArray) (hp : place i = some (pre.length, xs.length)) (hl : xs.length ≤ rest.length) :
    Instr.fill place (pre ++ rest).toArray ((i, v) :: ps) = Instr.fill place ((pre ++ xs) ++ rest.drop xs.length).toArray ps := by
  conv => lhs; unfold Instr.fill
  have h1 : ¬ (v.cells.size ≠ xs.length || pre.length + v.cells.size > (pre ++ rest).toArray.size) = true := by
    rw [hx]
    simp
    omega
  simp only [hp]
  rw [if_neg h1, hx]
  congr 1
  have := foldl_set pre.length xs 0 pre rest (by simp) hl
  rw [← this]
  simp

/-- The parts of a literal, each right behind the last. -/
def Fits (place : Nat → Option (Nat × Nat)) : List (Nat × Value) → List (List Value) → Nat → Prop
  | [], [], _ => True
  | (i, v) :: ps, xs :: xss, off => v.cells = xs.toArray ∧ place i = some (off, xs.length) ∧ Fits place ps xss (off + xs.length)
  | _, _, _ => False

theorem fill_fits {place : Nat → Option (Nat × Nat)} : ∀ (ps : List (Nat × Value)) (xss : List (List Value)) (pre rest : List Value), Fits place ps xss pre.length → xss.flatten.length ≤ rest.length →
    Instr.fill place (pre ++ rest).toArray ps = some (pre ++ xss.flatten ++ rest.drop xss.flatten.length).toArray
  | [], [], pre, rest, _, _ => by simp [Instr.fill]
  | (i, v) :: ps, xs :: xss, pre, rest, h, hl => by
    obtain ⟨h1, h2, h3⟩ := h
    rw [List.flatten_cons, List.length_append] at hl
    rw [fill_next h1 h2 (by omega), fill_fits ps xss (pre ++ xs) (rest.drop xs.length) (by rw [List.length_append]; exact h3) (by rw [List.length_drop]; omega)]
    simp [List.drop_drop]
  | [], _ :: _, _, _, h, _ => by cases h
  | (_, _) :: _, [], _, _, h, _ => by cases h

def cpL (e : Int) (r : List Value) : List Value := .int .u64 e :: r
def datL (sl ix se te : Int) (hd sr tr : List Value) : List Value := .int .u64 sl :: .int .u64 ix :: (hd ++ (cpL se sr ++ cpL te tr))
def attL (v : Value) (sl ix se te : Int) (hd sr tr : List Value) : List Value := v :: datL sl ix se te hd sr tr
def keyL (sl ix se te : Int) (hd sr tr : List Value) (fb : Bool) : List Value := datL sl ix se te hd sr tr ++ [.bool fb]

theorem built61_fill (ps : List (Nat × Value)) : Try.prog.built 61 ps = Instr.fill (fun x => ([(0, 1), (1, 32)] : List (Nat × Nat)).toArray[x]?) (Value.int .u64 0 :: List.replicate 32 (Value.int .u8 0)).toArray ps := by kernel_rfl
theorem built67_fill (ps : List (Nat × Value)) : Try.prog.built 67 ps = Instr.fill (fun x => ([(0, 1), (1, 1), (2, 32), (34, 33), (67, 33)] : List (Nat × Nat)).toArray[x]?) Try.zeroCells67 ps := by kernel_rfl
theorem built69_fill (ps : List (Nat × Value)) : Try.prog.built 69 ps = Instr.fill (fun x => ([(0, 100), (100, 1)] : List (Nat × Nat)).toArray[x]?) Try.zeroCells69 ps := by kernel_rfl
theorem built72_fill (ps : List (Nat × Value)) : Try.prog.built 72 ps = Instr.fill (fun x => ([(0, 101), (101, 1), (102, 1)] : List (Nat × Nat)).toArray[x]?) Try.zeroCells72 ps := by kernel_rfl
theorem built82_fill (ps : List (Nat × Value)) : Try.prog.built 82 ps = Instr.fill (fun x => ([(0, 1), (1, 1), (2, 1), (3, 32), (35, 33), (68, 33)] : List (Nat × Nat)).toArray[x]?) Try.zeroCells82 ps := by kernel_rfl

theorem split_at (Z : Array Value) (n : Nat) (h : Z.size = n) : ∃ z : List Value, Z = ([] ++ z).toArray ∧ z.length = n := ⟨Z.toList, by simp, by simpa using h⟩

theorem zero67_size : Try.zeroCells67.size = 100 := by kernel_rfl
theorem zero69_size : Try.zeroCells69.size = 101 := by kernel_rfl
theorem zero82_size : Try.zeroCells82.size = 101 := by kernel_rfl

section
variable {sl ix se te : Int} {hd sr tr : List Value} {fb : Bool} {v : Value}

theorem cpL_length (e : Int) (r : List Value) : (cpL e r).length = r.length + 1 := rfl
theorem datL_length (h1 : hd.length = 32) (h2 : sr.length = 32) (h3 : tr.length = 32) : (datL sl ix se te hd sr tr).length = 100 := by
  simp [datL, cpL, h1, h2, h3]

theorem built61 (e : Int) (r : List Value) (hr : r.length = 32) : Try.prog.built 61 [(0, .int .u64 e), (1, .agg r.toArray)] = some (cpL e r).toArray := by
  rw [built61_fill]
  have := fill_fits (place := fun x => ([(0, 1), (1, 32)] : List (Nat × Nat)).toArray[x]?) [(0, .int .u64 e), (1, .agg r.toArray)] [[.int .u64 e], r] [] (Value.int .u64 0 :: List.replicate 32 (Value.int .u8 0)) (by simp [Fits, Value.cells, hr]) (by simp [hr])
  refine this.trans ?_
  simp [cpL, hr]

theorem built82 (h1 : hd.length = 32) (h2 : sr.length = 32) (h3 : tr.length = 32) (hv : v.cells = #[v]) :
    Try.prog.built 82 [(0, v), (1, .int .u64 sl), (2, .int .u64 ix), (3, .agg hd.toArray), (4, .agg (cpL se sr).toArray), (5, .agg (cpL te tr).toArray)] = some (attL v sl ix se te hd sr tr).toArray := by
  rw [built82_fill]
  obtain ⟨z, hz, hl⟩ := split_at _ _ zero82_size
  rw [hz]
  have := fill_fits (place := fun x => ([(0, 1), (1, 1), (2, 1), (3, 32), (35, 33), (68, 33)] : List (Nat × Nat)).toArray[x]?) [(0, v), (1, .int .u64 sl), (2, .int .u64 ix), (3, .agg hd.toArray), (4, .agg (cpL se sr).toArray), (5, .agg (cpL te tr).toArray)]
    [[v], [.int .u64 sl], [.int .u64 ix], hd, cpL se sr, cpL te tr] [] z (by simp [Fits, hv]; simp [Value.cells, cpL, h1, h2, h3]) (by simp [cpL, h1, h2, h3, hl])
  refine this.trans ?_
  rw [List.drop_of_length_le (by simp [cpL, h1, h2, h3, hl])]
  simp [attL, datL]

theorem built67 (h1 : hd.length = 32) (h2 : sr.length = 32) (h3 : tr.length = 32) :
    Try.prog.built 67 [(0, .int .u64 sl), (1, .int .u64 ix), (2, .agg hd.toArray), (3, .agg (cpL se sr).toArray), (4, .agg (cpL te tr).toArray)] = some (datL sl ix se te hd sr tr).toArray := by
  rw [built67_fill]
  obtain ⟨z, hz, hl⟩ := split_at _ _ zero67_size
  rw [hz]
  have := fill_fits (place := fun x => ([(0, 1), (1, 1), (2, 32), (34, 33), (67, 33)] : List (Nat × Nat)).toArray[x]?) [(0, .int .u64 sl), (1, .int .u64 ix), (2, .agg hd.toArray), (3, .agg (cpL se sr).toArray), (4, .agg (cpL te tr).toArray)]
    [[.int .u64 sl], [.int .u64 ix], hd, cpL se sr, cpL te tr] [] z (by simp [Fits, Value.cells, cpL, h1, h2, h3]) (by simp [cpL, h1, h2, h3, hl])
  refine this.trans ?_
  rw [List.drop_of_length_le (by simp [cpL, h1, h2, h3, hl])]
  simp [datL]

theorem built69 {D : List Value} (hD : D.length = 100) : Try.prog.built 69 [(0, .agg D.toArray), (1, .bool fb)] = some (D ++ [Value.bool fb]).toArray := by
  rw [built69_fill]
  obtain ⟨z, hz, hl⟩ := split_at _ _ zero69_size
  rw [hz]
  have := fill_fits (place := fun x => ([(0, 100), (100, 1)] : List (Nat × Nat)).toArray[x]?) [(0, .agg D.toArray), (1, .bool fb)] [D, [Value.bool fb]] [] z (by simp [Fits, Value.cells, hD]) (by simp [hD, hl])
  refine this.trans ?_
  rw [List.drop_of_length_le (by simp [hD, hl])]
  simp

theorem built72 {K : List Value} (hK : K.length = 101) (hv : v.cells = #[v]) : Try.prog.built 72 [(0, .agg K.toArray), (1, v)] = some (K ++ [v, .map none]).toArray := by
  rw [built72_fill]
  obtain ⟨z, hz, hl⟩ := split_at _ _ zero72_size
  have hz2 := zero72_map
  rw [hz] at hz2 ⊢
  have := fill_fits (place := fun x => ([(0, 101), (101, 1), (102, 1)] : List (Nat × Nat)).toArray[x]?) [(0, .agg K.toArray), (1, v)] [K, [v]] [] z (by simp [Fits, hv]; simp [Value.cells, hK]) (by simp [hK, hl])
  refine this.trans ?_
  have e : z.drop 102 = [.map none] := by
    simp at hz2
    obtain ⟨h3, h4⟩ := List.getElem?_eq_some_iff.1 hz2
    rw [List.drop_eq_getElem_cons h3, h4, List.drop_of_length_le (by omega)]
  have e2 : ([K, [v]] : List (List Value)).flatten.length = 102 := by simp [hK]
  rw [e2, e]
  simp

end

end Go.Proofs.Qxb6603397a

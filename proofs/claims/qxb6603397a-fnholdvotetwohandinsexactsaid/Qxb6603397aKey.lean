/-
  A vote as a map's key.
-/
import Derived.Test.Qxb6603397aHvC
import Derived.DeepKeys4
namespace Go.Proofs.Qxb6603397a
open Go.RowKit Go.Maps

theorem laidOut : laidOutB Try.prog = true := by kernel_rfl
theorem row69 : (69 : TypeId) < Try.prog.types.size := of_decide_eq_true (by kernel_rfl)
theorem wide69 : (match Try.prog.underlying 69 with | some (.array _ _) | some (.struct _) => true | _ => false) = true := by kernel_rfl
set_option maxRecDepth 100000 in
theorem klaw69 : WideMaps.KeyLaw Try.prog 69 := deep_law_laid laidOut (m := 5) (by omega) row69 (by kernel_rfl) wide69
theorem law69 : Keyed Try.prog 69 := Keyed.of_law klaw69

theorem mapM_some {α β : Type} {f : α → Option β} : ∀ {l : List α}, (∀ x ∈ l, (f x).isSome = true) → (l.mapM f).isSome = true
  | [], _ => by simp
  | a :: l, h => by
    have h1 := h a (by simp)
    have h2 := mapM_some (l := l) (fun x hx => h x (by simp [hx]))
    obtain ⟨b, hb⟩ := Option.isSome_iff_exists.1 h1
    obtain ⟨c, hc⟩ := Option.isSome_iff_exists.1 h2
    simp [List.mapM_cons, hb, hc]

/-- Bytes in range. -/
def Bytes (l : List Value) : Prop := l.length = 32 ∧ ∀ v ∈ l, ∃ x, v = .int .u8 x ∧ (Lit.int .u8 x).wf = true

theorem c39 : Try.prog.cellsOf 39 = 1 := by kernel_rfl
theorem c5 : Try.prog.cellsOf 5 = 1 := by kernel_rfl
theorem c4 : Try.prog.cellsOf 4 = 1 := by kernel_rfl
theorem c59 : Try.prog.cellsOf 59 = 32 := by kernel_rfl
theorem c61 : Try.prog.cellsOf 61 = 33 := by kernel_rfl
theorem c67 : Try.prog.cellsOf 67 = 100 := by kernel_rfl
theorem c69 : Try.prog.cellsOf 69 = 101 := by kernel_rfl

theorem kl39 (d : Nat) (x : Int) (hx : (Lit.int .u64 x).wf = true) : (Try.prog.keyLits (d + 1) 39 [.int .u64 x]).isSome = true := by
  simp [Program.keyLits, Try.underlying39, hx]
theorem kl5 (d : Nat) (x : Int) (hx : (Lit.int .u8 x).wf = true) : (Try.prog.keyLits (d + 1) 5 [.int .u8 x]).isSome = true := by
  simp [Program.keyLits, Try.underlying5, hx]
theorem kl4 (d : Nat) (b : Bool) : (Try.prog.keyLits (d + 1) 4 [.bool b]).isSome = true := by
  simp [Program.keyLits, Try.underlying4]

theorem kl59 (d : Nat) (l : List Value) (h : Bytes l) : (Try.prog.keyLits (d + 2) 59 l).isSome = true := by
  unfold Program.keyLits
  simp only [Try.underlying59]
  rw [if_pos (by rw [c59]; exact h.1), Option.isSome_map]
  refine mapM_some (fun i hi => ?_)
  rw [List.mem_range] at hi
  rw [c5, Nat.mul_one]
  have hil : i < l.length := by rw [h.1]; exact hi
  obtain ⟨x, hx, hw⟩ := h.2 _ (List.getElem_mem hil)
  rw [List.drop_eq_getElem_cons hil, hx]
  exact kl5 d x hw

theorem kl61 (d : Nat) (e : Int) (l : List Value) (he : (Lit.int .u64 e).wf = true) (h : Bytes l) : (Try.prog.keyLits (d + 3) 61 (cpL e l)).isSome = true := by
  unfold Program.keyLits
  simp only [Try.underlying61]
  rw [if_pos ⟨by rw [c61]; simp [cpL, h.1], by kernel_rfl⟩, Option.isSome_map]
  refine mapM_some (fun f hf => ?_)
  simp only [List.mem_cons, List.not_mem_nil, or_false] at hf
  rcases hf with rfl | rfl
  · simp only [c39]
    exact kl39 (d + 1) e he
  · simp only [c59]
    have : ((cpL e l).drop 1).take 32 = l := by simp [cpL, ← h.1]
    rw [this]
    exact kl59 d l h

theorem kl67 (d : Nat) (sl ix se te : Int) (hd sr tr : List Value) (w1 : (Lit.int .u64 sl).wf = true) (w2 : (Lit.int .u64 ix).wf = true) (w3 : (Lit.int .u64 se).wf = true) (w4 : (Lit.int .u64 te).wf = true) (h1 : Bytes hd) (h2 : Bytes sr) (h3 : Bytes tr) :
    (Try.prog.keyLits (d + 4) 67 (datL sl ix se te hd sr tr)).isSome = true := by
  unfold Program.keyLits
  simp only [Try.underlying67]
  rw [if_pos ⟨by rw [c67]; exact datL_length h1.1 h2.1 h3.1, by kernel_rfl⟩, Option.isSome_map]
  refine mapM_some (fun f hf => ?_)
  simp only [List.mem_cons, List.not_mem_nil, or_false] at hf
  rcases hf with rfl | rfl | rfl | rfl | rfl
  · simp only [c39]
    exact kl39 (d + 2) sl w1
  · simp only [c39]
    exact kl39 (d + 2) ix w2
  · simp only [c59]
    have : ((datL sl ix se te hd sr tr).drop 2).take 32 = hd := by simp [datL, ← h1.1]
    rw [this]
    exact kl59 (d + 1) hd h1
  · simp only [c61]
    have e1 : (datL sl ix se te hd sr tr).drop 34 = cpL se sr ++ cpL te tr := by
      show (hd ++ (cpL se sr ++ cpL te tr)).drop 32 = _
      rw [List.drop_append_of_le_length (by rw [h1.1]; omega), List.drop_of_length_le (by rw [h1.1]; omega), List.nil_append]
    rw [e1, List.take_append_of_le_length (by simp [cpL, h2.1]), List.take_of_length_le (by simp [cpL, h2.1])]
    exact kl61 d se sr w3 h2
  · simp only [c61]
    have e1 : (datL sl ix se te hd sr tr).drop 67 = cpL te tr := by
      have e2 : datL sl ix se te hd sr tr = ([.int .u64 sl, .int .u64 ix] ++ hd ++ cpL se sr) ++ cpL te tr := by simp [datL]
      rw [e2, List.drop_append_of_le_length (by simp [cpL, h1.1, h2.1]), List.drop_of_length_le (by simp [cpL, h1.1, h2.1]), List.nil_append]
    rw [e1, List.take_of_length_le (by simp [cpL, h3.1])]
    exact kl61 d te tr w4 h3

theorem kl69 (d : Nat) (sl ix se te : Int) (hd sr tr : List Value) (fb : Bool) (w1 : (Lit.int .u64 sl).wf = true) (w2 : (Lit.int .u64 ix).wf = true) (w3 : (Lit.int .u64 se).wf = true) (w4 : (Lit.int .u64 te).wf = true) (h1 : Bytes hd) (h2 : Bytes sr) (h3 : Bytes tr) :
    (Try.prog.keyLits (d + 5) 69 (keyL sl ix se te hd sr tr fb)).isSome = true := by
  have hl : (datL sl ix se te hd sr tr).length = 100 := datL_length h1.1 h2.1 h3.1
  unfold Program.keyLits
  simp only [Try.underlying69]
  rw [if_pos ⟨by rw [c69]; simp [keyL, hl], by kernel_rfl⟩, Option.isSome_map]
  refine mapM_some (fun f hf => ?_)
  simp only [List.mem_cons, List.not_mem_nil, or_false] at hf
  rcases hf with rfl | rfl
  · simp only [c67]
    have : ((keyL sl ix se te hd sr tr fb).drop 0).take 100 = datL sl ix se te hd sr tr := by
      rw [List.drop_zero, keyL, List.take_append_of_le_length (by omega), List.take_of_length_le (by omega)]
    rw [this]
    exact kl67 d sl ix se te hd sr tr w1 w2 w3 w4 h1 h2 h3
  · simp only [c4]
    have : (keyL sl ix se te hd sr tr fb).drop 100 = [.bool fb] := by
      rw [keyL, List.drop_append_of_le_length (by omega), List.drop_of_length_le (by omega), List.nil_append]
    rw [this]
    exact kl4 (d + 3) fb

theorem Bytes.one {l : List Value} (h : Bytes l) : ∀ v ∈ l, v.oneCell' = true := fun v hv => by
  obtain ⟨x, rfl, _⟩ := h.2 v hv
  rfl

theorem arrs_of {hd sr tr : List Value} (h1 : Bytes hd) (h2 : Bytes sr) (h3 : Bytes tr) : Arrs hd sr tr := ⟨h1.1, h2.1, h3.1, h1.one, h2.one, h3.one⟩

theorem types_size : Try.prog.types.size = 132 := by kernel_rfl
theorem keyType69 : Try.prog.keyType 69 = true := by kernel_rfl

/-- A vote reads as a key. -/
theorem key69 (sl ix se te : Int) (hd sr tr : List Value) (fb : Bool) (w1 : (Lit.int .u64 sl).wf = true) (w2 : (Lit.int .u64 ix).wf = true) (w3 : (Lit.int .u64 se).wf = true) (w4 : (Lit.int .u64 te).wf = true) (h1 : Bytes hd) (h2 : Bytes sr) (h3 : Bytes tr) :
    ∃ kl, keyOf Try.prog 69 (.agg (keyL sl ix se te hd sr tr fb).toArray) = some kl := by
  have hs := kl69 128 sl ix se te hd sr tr fb w1 w2 w3 w4 h1 h2 h3
  obtain ⟨ls, hls⟩ := Option.isSome_iff_exists.1 hs
  refine ⟨.string (keyBytes ls), ?_⟩
  have hf : (Value.agg (keyL sl ix se te hd sr tr fb).toArray).formed Try.prog 69 = true := by
    simp [Value.formed, Try.underlying69, c69, keyL_length (arrs_of h1 h2 h3)]
  unfold keyOf
  simp only [Try.underlying69]
  rw [if_pos (by rw [keyType69, hf]; rfl), types_size]
  show (Try.prog.keyLits 133 69 (keyL sl ix se te hd sr tr fb)).map _ = _
  rw [hls]
  rfl

end Go.Proofs.Qxb6603397a

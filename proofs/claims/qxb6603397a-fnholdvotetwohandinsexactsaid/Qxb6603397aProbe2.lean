/-
  ZZHoldingVoterOfItem.
-/
import Derived.Test.Qxb6603397aProbe
namespace Go.Proofs.Qxb6603397a
open Go.RowKit Go.Maps

/-- A row of cells read out of a block, in a region that only reads. -/
theorem wpQuiet_load_mid {P : Program} {ops : Array Oper} {C : World → Prop} {Q : Act → Prop} {a : Act} {o : Oper} {rest : List Oper} (hgd : o.guard = none) (ty : TypeId) (x : Operand) (ho : o.op = .load ty x)
    (g off : Nat) (hx : a.eval x = .pointer (some ⟨g, off, none⟩)) (cs : List Value) (d : TypeDesc) (hg : ∀ w, C w → w.rangeAt g off cs)
    (hu : P.underlying ty = some d) (hd : d.isRow = true) (hi : (P.info? ty).map (·.size) = some cs.length)
    (h : wpQuiet P ops C Q rest (a.put o.dst (.agg cs.toArray))) : wpQuiet P ops C Q (o :: rest) a := by
  have hw : Region.wanted o (yielded ops a.tmps) = true := by simp [Region.wanted, hgd]
  unfold wpQuiet
  rw [if_pos hw]
  refine ⟨.agg cs.toArray, fun w hC => ?_, h⟩
  unfold Oper.quietAt execOp
  simp only [ho, hx]
  rw [Sem.run_bind, run_loadAt_mid w g off ty cs _ (hg w hC) hu hd hi]
  exact ⟨rfl, rfl⟩

section
variable {w : World} {hb g n c k vb vm N : Nat} {sv : Value} {D : DataW Unit} {K : List Value} {kl : Lit}

set_option maxHeartbeats 1000000 in
set_option maxRecDepth 100000 in
theorem voterOf48 (h : ItemAt w hb g n c k vb sv) (hc2 : w.cell? ⟨hb, 2, none⟩ = some (.map (some vm))) (hvot : w.ownsMap Try.prog 69 ptrElem vm N D) (hK : w.rangeAt vb 0 K) (hKl : K.length = 101) (hkl : keyOf Try.prog 69 (.agg K.toArray) = some kl)
    (hat : D.atKey kl .nil = .lit (.int .i64 vb)) (hhas : Maps.has D kl = true) : Calls Try.prog 48 #[.pointer (some ⟨hb, 0, none⟩), .int .i64 k] w fun e w' => e = .returned (.bool true) ∧ Below w.heap.size w w' := by
  have hlook := look77 law69 hvot hkl (pv := .pointer (some ⟨vb, 0, none⟩)) (fun v ps h => ptrElem_inv (by rw [hat] at h; exact h))
  rw [hhas] at hlook
  have qs : ∀ q, (binOp .eql 89 (.pointer (some ⟨vb, 0, none⟩)) (.pointer (some ⟨vb, 0, none⟩))).run Try.prog (w.drewN q) = .ok (.bool true) (w.drewN q) := fun q => by obtain ⟨j, hj, _⟩ := j69; exact run_eql_ptr_same _ _ Try.underlying89 hj
  have c0 := h.c0
  have lt := h.lt
  have i1 := h.i1
  have HK := hide (And.intro hK hKl)
  clear h hvot hkl hat hhas hK hKl
  go_enter Try.func48, Try.ntmps48
  go_wp2_with fail
  refine wp_region_quiet_lit (by kernel_rfl) (by kernel_rfl) ?_
  repeat (go_big_quiet_step (fail))
  refine wpQuiet_load_mid rfl 69 _ rfl vb 0 rfl K _ (fun w' hw' => by obtain ⟨n, rfl⟩ := hw'; exact (unhide HK).1) Try.underlying69 rfl (by rw [i69, (unhide HK).2]) ?_
  go_frame
  repeat (go_big_quiet_step (fail))
  refine wpQuiet_nil ?_
  intro _ hw'
  obtain ⟨nq, hw''⟩ := hw'
  subst hw''
  clear hlook
  go_wp2_with fail
  go_quiet (fail)
  go_wp2
  go_ret
  exact ⟨rfl, below_drewN (below_of_drew _) _⟩
end
end Go.Proofs.Qxb6603397a

/-
  No cell of these rows narrows 'for every input' (looked for: loops, veiled, ifaces, maps, wideKeys, modest, calm, conditions, laid).
  DERIVED. THE GIVEN ROWS OF THIS SEAT. 4 by the template 'for every input the law returns true; each argument reads behind the call as it read before'; 0 by the template 'total and deterministic' (their statements: Qxb6603799aTotals.lean).
  GIVEN WITH THE SEED: the statements are not yours to turn. If you find one false, say at which input.
  Laid BY PROGRAM, IN A SANDBOX (cutbox-rows.mjs): the forced cells as the released guide's own fill.sh prints them over the translation 68c95661bc10cbbb… (all of the seat's roots in one cut). By AI agents, Wed Nov 11 2026. No macro, syntax, notation, axiom, sorry.
-/
import Derived.Test.Qxb6603799aChecked
import GoSem.Claim
import GoSem.ClaimJoined
import GoSem.ClaimMapViews
import Derived.JoinedTies
import Derived.KernelRfl
namespace Go.Proofs.Qxb6603799a
/- THE CELL 'sum', in the pinned program and in every row, IS THE sha256 OF THE DUMP (.gsa) THAT Qxb6603799aProg.lean LOADS. Nothing in Lean hashes anything: it is a label: what it is worth is what the hold of that sum in a sandbox is worth. -/
noncomputable def Try.pinned : Pinned := { name := "qxb6603799a", sum := "68c95661bc10cbbb651e978a35421522b92d086e4abf7eaa8468ac4982a7b12e", checked := Try.checked }
namespace Rows
def none {H : Type} : Left H := { results := [], args := [] }

/-- 'zzlaws_internal_kv_b1.FnHoldsOneOrderOfThree': WHATEVER THE INPUT: true; the input reads as it did. -/
def fnHoldsOneOrderOfThreeSpec : ChangeSpec := { name := "fnHoldsOneOrderOfThree", fn := fun _ => fun
  | [d1, d2, d3, d4, d5, d6, d7, d8] => { results := [.lit (.bool true)], args := [d1, d2, d3, d4, d5, d6, d7, d8] }
  | _ => none }
def fnHoldsOneOrderOfThreeRow : OpenClaim := { program := "qxb6603799a", sum := "68c95661bc10cbbb651e978a35421522b92d086e4abf7eaa8468ac4982a7b12e", func := "example.com/oarlock/oarlock/zzlaws_internal_kv_b1.FnHoldsOneOrderOfThree", spec := "fnHoldsOneOrderOfThree", inPlace := ["internal/bytealg.Compare"], apart := false }
def FnHoldsOneOrderOfThreeSaid : Prop := fnHoldsOneOrderOfThreeRow.holds Try.pinned (OpenSpec.ofChange fnHoldsOneOrderOfThreeSpec)

/-- ITS FALSE NEIGHBOUR: 'it returns false'. Refute it at one input. -/
def fnHoldsOneOrderOfThreeWrong : ChangeSpec := { name := "fnHoldsOneOrderOfThree", fn := fun _ => fun
  | [d1, d2, d3, d4, d5, d6, d7, d8] => { results := [.lit (.bool false)], args := [d1, d2, d3, d4, d5, d6, d7, d8] }
  | _ => none }
def FnHoldsOneOrderOfThreeWrongFalsely : Prop := fnHoldsOneOrderOfThreeRow.holds Try.pinned (OpenSpec.ofChange fnHoldsOneOrderOfThreeWrong)

/-- 'zzlaws_internal_kv_b1.FnLevelSetSpec': WHATEVER THE INPUT: true; the input reads as it did. -/
def fnLevelSetSpecSpec : ChangeSpec := { name := "fnLevelSetSpec", fn := fun _ => fun
  | [d1, d2, d3, d4, d5, d6, d7, d8] => { results := [.lit (.bool true)], args := [d1, d2, d3, d4, d5, d6, d7, d8] }
  | _ => none }
def fnLevelSetSpecRow : OpenClaim := { program := "qxb6603799a", sum := "68c95661bc10cbbb651e978a35421522b92d086e4abf7eaa8468ac4982a7b12e", func := "example.com/oarlock/oarlock/zzlaws_internal_kv_b1.FnLevelSetSpec", spec := "fnLevelSetSpec", apart := false }
def FnLevelSetSpecSaid : Prop := fnLevelSetSpecRow.holds Try.pinned (OpenSpec.ofChange fnLevelSetSpecSpec)

/-- ITS FALSE NEIGHBOUR: 'it returns false'. Refute it at one input. -/
def fnLevelSetSpecWrong : ChangeSpec := { name := "fnLevelSetSpec", fn := fun _ => fun
  | [d1, d2, d3, d4, d5, d6, d7, d8] => { results := [.lit (.bool false)], args := [d1, d2, d3, d4, d5, d6, d7, d8] }
  | _ => none }
def FnLevelSetSpecWrongFalsely : Prop := fnLevelSetSpecRow.holds Try.pinned (OpenSpec.ofChange fnLevelSetSpecWrong)

/-- 'zzlaws_internal_kv_b1.FnLevelSetScriptLater': WHATEVER THE INPUT: true; the input reads as it did. -/
def fnLevelSetScriptLaterSpec : ChangeSpec := { name := "fnLevelSetScriptLater", fn := fun _ => fun
  | [d1, d2] => { results := [.lit (.bool true)], args := [d1, d2] }
  | _ => none }
def fnLevelSetScriptLaterRow : OpenClaim := { program := "qxb6603799a", sum := "68c95661bc10cbbb651e978a35421522b92d086e4abf7eaa8468ac4982a7b12e", func := "example.com/oarlock/oarlock/zzlaws_internal_kv_b1.FnLevelSetScriptLater", spec := "fnLevelSetScriptLater", apart := false }
def FnLevelSetScriptLaterSaid : Prop := fnLevelSetScriptLaterRow.holds Try.pinned (OpenSpec.ofChange fnLevelSetScriptLaterSpec)

/-- ITS FALSE NEIGHBOUR: 'it returns false'. Refute it at one input. -/
def fnLevelSetScriptLaterWrong : ChangeSpec := { name := "fnLevelSetScriptLater", fn := fun _ => fun
  | [d1, d2] => { results := [.lit (.bool false)], args := [d1, d2] }
  | _ => none }
def FnLevelSetScriptLaterWrongFalsely : Prop := fnLevelSetScriptLaterRow.holds Try.pinned (OpenSpec.ofChange fnLevelSetScriptLaterWrong)

/-- 'zzlaws_internal_kv_b1.FnLevelSetScriptFirst': WHATEVER THE INPUT: true; the input reads as it did. -/
def fnLevelSetScriptFirstSpec : ChangeSpec := { name := "fnLevelSetScriptFirst", fn := fun _ => fun
  | [d1, d2] => { results := [.lit (.bool true)], args := [d1, d2] }
  | _ => none }
def fnLevelSetScriptFirstRow : OpenClaim := { program := "qxb6603799a", sum := "68c95661bc10cbbb651e978a35421522b92d086e4abf7eaa8468ac4982a7b12e", func := "example.com/oarlock/oarlock/zzlaws_internal_kv_b1.FnLevelSetScriptFirst", spec := "fnLevelSetScriptFirst", apart := false }
def FnLevelSetScriptFirstSaid : Prop := fnLevelSetScriptFirstRow.holds Try.pinned (OpenSpec.ofChange fnLevelSetScriptFirstSpec)

/-- ITS FALSE NEIGHBOUR: 'it returns false'. Refute it at one input. -/
def fnLevelSetScriptFirstWrong : ChangeSpec := { name := "fnLevelSetScriptFirst", fn := fun _ => fun
  | [d1, d2] => { results := [.lit (.bool false)], args := [d1, d2] }
  | _ => none }
def FnLevelSetScriptFirstWrongFalsely : Prop := fnLevelSetScriptFirstRow.holds Try.pinned (OpenSpec.ofChange fnLevelSetScriptFirstWrong)

end Rows
end Go.Proofs.Qxb6603799a

/-
  No cell of these rows narrows 'for every input' (looked for: loops, veiled, ifaces, maps, wideKeys, modest, calm, conditions, laid).
  DERIVED. THE GIVEN ROWS OF THIS SEAT. 3 by the template 'for every input the law returns true; each argument reads behind the call as it read before'; 0 by the template 'total and deterministic' (their statements: Qxb6603623aTotals.lean).
  GIVEN WITH THE SEED: the statements are not yours to turn. If you find one false, say at which input.
  Laid BY PROGRAM, IN A SANDBOX (cutbox-rows.mjs): the forced cells as the released guide's own fill.sh prints them over the translation 0ed099cd37fe365d… (all of the seat's roots in one cut). By AI agents, Wed Nov 11 2026. No macro, syntax, notation, axiom, sorry.
-/
import Derived.Test.Qxb6603623aChecked
import GoSem.Claim
import GoSem.ClaimJoined
import GoSem.ClaimMapViews
import Derived.JoinedTies
import Derived.KernelRfl
namespace Go.Proofs.Qxb6603623a
/- THE CELL 'sum', in the pinned program and in every row, IS THE sha256 OF THE DUMP (.gsa) THAT Qxb6603623aProg.lean LOADS. Nothing in Lean hashes anything: it is a label: what it is worth is what the hold of that sum in a sandbox is worth. -/
noncomputable def Try.pinned : Pinned := { name := "qxb6603623a", sum := "0ed099cd37fe365d32a34c6f57cbc4e7388adb30b60a7d050c68e95842e7ee12", checked := Try.checked }
namespace Rows
def none {H : Type} : Left H := { results := [], args := [] }

/-- 'zzlaws_policy_b1.FnOpenRefusesDotAndEmptySegments': WHATEVER THE INPUT: true; the input reads as it did. -/
def fnOpenRefusesDotAndEmptySegmentsSpec : ChangeSpec := { name := "fnOpenRefusesDotAndEmptySegments", fn := fun _ => fun
  | [d] => { results := [.lit (.bool true)], args := [d] }
  | _ => none }
def fnOpenRefusesDotAndEmptySegmentsRow : OpenClaim := { program := "qxb6603623a", sum := "0ed099cd37fe365d32a34c6f57cbc4e7388adb30b60a7d050c68e95842e7ee12", func := "example.com/mini-toll/mini-toll/zzlaws_policy_b1.FnOpenRefusesDotAndEmptySegments", spec := "fnOpenRefusesDotAndEmptySegments", apart := false }
def FnOpenRefusesDotAndEmptySegmentsSaid : Prop := fnOpenRefusesDotAndEmptySegmentsRow.holds Try.pinned (OpenSpec.ofChange fnOpenRefusesDotAndEmptySegmentsSpec)

/-- ITS FALSE NEIGHBOUR: 'it returns false'. Refute it at one input. -/
def fnOpenRefusesDotAndEmptySegmentsWrong : ChangeSpec := { name := "fnOpenRefusesDotAndEmptySegments", fn := fun _ => fun
  | [d] => { results := [.lit (.bool false)], args := [d] }
  | _ => none }
def FnOpenRefusesDotAndEmptySegmentsWrongFalsely : Prop := fnOpenRefusesDotAndEmptySegmentsRow.holds Try.pinned (OpenSpec.ofChange fnOpenRefusesDotAndEmptySegmentsWrong)

/-- 'zzlaws_policy_b1.FnOpenMatchesSegmentModel': WHATEVER THE INPUT: true; the input reads as it did. -/
def fnOpenMatchesSegmentModelSpec : ChangeSpec := { name := "fnOpenMatchesSegmentModel", fn := fun _ => fun
  | [d] => { results := [.lit (.bool true)], args := [d] }
  | _ => none }
def fnOpenMatchesSegmentModelRow : OpenClaim := { program := "qxb6603623a", sum := "0ed099cd37fe365d32a34c6f57cbc4e7388adb30b60a7d050c68e95842e7ee12", func := "example.com/mini-toll/mini-toll/zzlaws_policy_b1.FnOpenMatchesSegmentModel", spec := "fnOpenMatchesSegmentModel", apart := false }
def FnOpenMatchesSegmentModelSaid : Prop := fnOpenMatchesSegmentModelRow.holds Try.pinned (OpenSpec.ofChange fnOpenMatchesSegmentModelSpec)

/-- ITS FALSE NEIGHBOUR: 'it returns false'. Refute it at one input. -/
def fnOpenMatchesSegmentModelWrong : ChangeSpec := { name := "fnOpenMatchesSegmentModel", fn := fun _ => fun
  | [d] => { results := [.lit (.bool false)], args := [d] }
  | _ => none }
def FnOpenMatchesSegmentModelWrongFalsely : Prop := fnOpenMatchesSegmentModelRow.holds Try.pinned (OpenSpec.ofChange fnOpenMatchesSegmentModelWrong)

/-- 'zzlaws_policy_b1.FnBuiltinOpenPathRuleHoldsIffOpenModel': WHATEVER THE INPUT: true; the input reads as it did. -/
def fnBuiltinOpenPathRuleHoldsIffOpenModelSpec : ChangeSpec := { name := "fnBuiltinOpenPathRuleHoldsIffOpenModel", fn := fun _ => fun
  | [d1, d2] => { results := [.lit (.bool true)], args := [d1, d2] }
  | _ => none }
def fnBuiltinOpenPathRuleHoldsIffOpenModelRow : OpenClaim := { program := "qxb6603623a", sum := "0ed099cd37fe365d32a34c6f57cbc4e7388adb30b60a7d050c68e95842e7ee12", func := "example.com/mini-toll/mini-toll/zzlaws_policy_b1.FnBuiltinOpenPathRuleHoldsIffOpenModel", spec := "fnBuiltinOpenPathRuleHoldsIffOpenModel", inPlace := ["internal/bytealg.IndexByteString", "internal/bytealg.IndexString"], unfollowed := true, recurses := true, named := ["internal/bytealg.MaxLen"], apart := false }
def FnBuiltinOpenPathRuleHoldsIffOpenModelSaid : Prop := fnBuiltinOpenPathRuleHoldsIffOpenModelRow.holds Try.pinned (OpenSpec.ofChange fnBuiltinOpenPathRuleHoldsIffOpenModelSpec)

/-- ITS FALSE NEIGHBOUR: 'it returns false'. Refute it at one input. -/
def fnBuiltinOpenPathRuleHoldsIffOpenModelWrong : ChangeSpec := { name := "fnBuiltinOpenPathRuleHoldsIffOpenModel", fn := fun _ => fun
  | [d1, d2] => { results := [.lit (.bool false)], args := [d1, d2] }
  | _ => none }
def FnBuiltinOpenPathRuleHoldsIffOpenModelWrongFalsely : Prop := fnBuiltinOpenPathRuleHoldsIffOpenModelRow.holds Try.pinned (OpenSpec.ofChange fnBuiltinOpenPathRuleHoldsIffOpenModelWrong)

end Rows
end Go.Proofs.Qxb6603623a

/-
  No cell of these rows narrows 'for every input' (looked for: loops, veiled, ifaces, maps, wideKeys, modest, calm, conditions, laid).
  DERIVED. THE GIVEN ROWS OF THIS SEAT. 6 by the template 'for every input the law returns true; each argument reads behind the call as it read before'; 0 by the template 'total and deterministic' (their statements: Qxb6603397aTotals.lean).
  GIVEN WITH THE SEED: the statements are not yours to turn. If you find one false, say at which input.
  Laid BY PROGRAM, IN A SANDBOX (cutbox-rows.mjs): the forced cells as the released guide's own fill.sh prints them over the translation 562ebf3d213aabb8… (all of the seat's roots in one cut). By AI agents, Wed Nov 11 2026. No macro, syntax, notation, axiom, sorry.
-/
import Derived.Test.Qxb6603397aChecked
import GoSem.Claim
import GoSem.ClaimJoined
import GoSem.ClaimMapViews
import Derived.JoinedTies
import Derived.KernelRfl
namespace Go.Proofs.Qxb6603397a
/- THE CELL 'sum', in the pinned program and in every row, IS THE sha256 OF THE DUMP (.gsa) THAT Qxb6603397aProg.lean LOADS. Nothing in Lean hashes anything: it is a label: what it is worth is what the hold of that sum in a sandbox is worth. -/
noncomputable def Try.pinned : Pinned := { name := "qxb6603397a", sum := "562ebf3d213aabb852066ba64e97a366dabb164723a579c4929f0330dc058d00", checked := Try.checked }
namespace Rows
def none {H : Type} : Left H := { results := [], args := [] }

/-- 'zzlaws_root_b1.FnChainAfterIsPathByParents': WHATEVER THE INPUT: true; the input reads as it did. -/
def fnChainAfterIsPathByParentsSpec : ChangeSpec := { name := "fnChainAfterIsPathByParents", fn := fun _ => fun
  | [d1, d2, d3, d4] => { results := [.lit (.bool true)], args := [d1, d2, d3, d4] }
  | _ => none }
def fnChainAfterIsPathByParentsRow : OpenClaim := { program := "qxb6603397a", sum := "562ebf3d213aabb852066ba64e97a366dabb164723a579c4929f0330dc058d00", func := "example.com/headwater/headwater/zzlaws_root_b1.FnChainAfterIsPathByParents", spec := "fnChainAfterIsPathByParents", plainKeys := false, apart := false }
def FnChainAfterIsPathByParentsSaid : Prop := fnChainAfterIsPathByParentsRow.holds Try.pinned (OpenSpec.ofChange fnChainAfterIsPathByParentsSpec)

/-- ITS FALSE NEIGHBOUR: 'it returns false'. Refute it at one input. -/
def fnChainAfterIsPathByParentsWrong : ChangeSpec := { name := "fnChainAfterIsPathByParents", fn := fun _ => fun
  | [d1, d2, d3, d4] => { results := [.lit (.bool false)], args := [d1, d2, d3, d4] }
  | _ => none }
def FnChainAfterIsPathByParentsWrongFalsely : Prop := fnChainAfterIsPathByParentsRow.holds Try.pinned (OpenSpec.ofChange fnChainAfterIsPathByParentsWrong)

/-- 'zzlaws_root_b1.FnChainAfterJoinsAtMidpoint': WHATEVER THE INPUT: true; the input reads as it did. -/
def fnChainAfterJoinsAtMidpointSpec : ChangeSpec := { name := "fnChainAfterJoinsAtMidpoint", fn := fun _ => fun
  | [d1, d2, d3, d4, d5] => { results := [.lit (.bool true)], args := [d1, d2, d3, d4, d5] }
  | _ => none }
def fnChainAfterJoinsAtMidpointRow : OpenClaim := { program := "qxb6603397a", sum := "562ebf3d213aabb852066ba64e97a366dabb164723a579c4929f0330dc058d00", func := "example.com/headwater/headwater/zzlaws_root_b1.FnChainAfterJoinsAtMidpoint", spec := "fnChainAfterJoinsAtMidpoint", plainKeys := false, apart := false }
def FnChainAfterJoinsAtMidpointSaid : Prop := fnChainAfterJoinsAtMidpointRow.holds Try.pinned (OpenSpec.ofChange fnChainAfterJoinsAtMidpointSpec)

/-- ITS FALSE NEIGHBOUR: 'it returns false'. Refute it at one input. -/
def fnChainAfterJoinsAtMidpointWrong : ChangeSpec := { name := "fnChainAfterJoinsAtMidpoint", fn := fun _ => fun
  | [d1, d2, d3, d4, d5] => { results := [.lit (.bool false)], args := [d1, d2, d3, d4, d5] }
  | _ => none }
def FnChainAfterJoinsAtMidpointWrongFalsely : Prop := fnChainAfterJoinsAtMidpointRow.holds Try.pinned (OpenSpec.ofChange fnChainAfterJoinsAtMidpointWrong)

/-- 'zzlaws_root_b1.FnHeldVotersAddExact': WHATEVER THE INPUT: true; the input reads as it did. -/
def fnHeldVotersAddExactSpec : ChangeSpec := { name := "fnHeldVotersAddExact", fn := fun _ => fun
  | [d1, d2, d3, d4] => { results := [.lit (.bool true)], args := [d1, d2, d3, d4] }
  | _ => none }
def fnHeldVotersAddExactRow : OpenClaim := { program := "qxb6603397a", sum := "562ebf3d213aabb852066ba64e97a366dabb164723a579c4929f0330dc058d00", func := "example.com/headwater/headwater/zzlaws_root_b1.FnHeldVotersAddExact", spec := "fnHeldVotersAddExact", plainKeys := false, apart := false }
def FnHeldVotersAddExactSaid : Prop := fnHeldVotersAddExactRow.holds Try.pinned (OpenSpec.ofChange fnHeldVotersAddExactSpec)

/-- ITS FALSE NEIGHBOUR: 'it returns false'. Refute it at one input. -/
def fnHeldVotersAddExactWrong : ChangeSpec := { name := "fnHeldVotersAddExact", fn := fun _ => fun
  | [d1, d2, d3, d4] => { results := [.lit (.bool false)], args := [d1, d2, d3, d4] }
  | _ => none }
def FnHeldVotersAddExactWrongFalsely : Prop := fnHeldVotersAddExactRow.holds Try.pinned (OpenSpec.ofChange fnHeldVotersAddExactWrong)

/-- 'zzlaws_root_b1.FnHeldVotersAddAgainAddsNothing': WHATEVER THE INPUT: true; the input reads as it did. -/
def fnHeldVotersAddAgainAddsNothingSpec : ChangeSpec := { name := "fnHeldVotersAddAgainAddsNothing", fn := fun _ => fun
  | [d1, d2, d3, d4] => { results := [.lit (.bool true)], args := [d1, d2, d3, d4] }
  | _ => none }
def fnHeldVotersAddAgainAddsNothingRow : OpenClaim := { program := "qxb6603397a", sum := "562ebf3d213aabb852066ba64e97a366dabb164723a579c4929f0330dc058d00", func := "example.com/headwater/headwater/zzlaws_root_b1.FnHeldVotersAddAgainAddsNothing", spec := "fnHeldVotersAddAgainAddsNothing", plainKeys := false, apart := false }
def FnHeldVotersAddAgainAddsNothingSaid : Prop := fnHeldVotersAddAgainAddsNothingRow.holds Try.pinned (OpenSpec.ofChange fnHeldVotersAddAgainAddsNothingSpec)

/-- ITS FALSE NEIGHBOUR: 'it returns false'. Refute it at one input. -/
def fnHeldVotersAddAgainAddsNothingWrong : ChangeSpec := { name := "fnHeldVotersAddAgainAddsNothing", fn := fun _ => fun
  | [d1, d2, d3, d4] => { results := [.lit (.bool false)], args := [d1, d2, d3, d4] }
  | _ => none }
def FnHeldVotersAddAgainAddsNothingWrongFalsely : Prop := fnHeldVotersAddAgainAddsNothingRow.holds Try.pinned (OpenSpec.ofChange fnHeldVotersAddAgainAddsNothingWrong)

/-- 'zzlaws_root_b1.FnHoldVoteTwoHandInsExact': WHATEVER THE INPUT: true; the input reads as it did. -/
def fnHoldVoteTwoHandInsExactSpec : ChangeSpec := { name := "fnHoldVoteTwoHandInsExact", fn := fun _ => fun
  | [d1, d2, d3, d4, d5, d6, d7, d8, d9, d10, d11, d12] => { results := [.lit (.bool true)], args := [d1, d2, d3, d4, d5, d6, d7, d8, d9, d10, d11, d12] }
  | _ => none }
def fnHoldVoteTwoHandInsExactRow : OpenClaim := { program := "qxb6603397a", sum := "562ebf3d213aabb852066ba64e97a366dabb164723a579c4929f0330dc058d00", func := "example.com/headwater/headwater/zzlaws_root_b1.FnHoldVoteTwoHandInsExact", spec := "fnHoldVoteTwoHandInsExact", plainKeys := false, apart := false }
def FnHoldVoteTwoHandInsExactSaid : Prop := fnHoldVoteTwoHandInsExactRow.holds Try.pinned (OpenSpec.ofChange fnHoldVoteTwoHandInsExactSpec)

/-- ITS FALSE NEIGHBOUR: 'it returns false'. Refute it at one input. -/
def fnHoldVoteTwoHandInsExactWrong : ChangeSpec := { name := "fnHoldVoteTwoHandInsExact", fn := fun _ => fun
  | [d1, d2, d3, d4, d5, d6, d7, d8, d9, d10, d11, d12] => { results := [.lit (.bool false)], args := [d1, d2, d3, d4, d5, d6, d7, d8, d9, d10, d11, d12] }
  | _ => none }
def FnHoldVoteTwoHandInsExactWrongFalsely : Prop := fnHoldVoteTwoHandInsExactRow.holds Try.pinned (OpenSpec.ofChange fnHoldVoteTwoHandInsExactWrong)

/-- 'zzlaws_root_b1.FnHoldVoteTotalIsUnionEitherOrder': WHATEVER THE INPUT: true; the input reads as it did. -/
def fnHoldVoteTotalIsUnionEitherOrderSpec : ChangeSpec := { name := "fnHoldVoteTotalIsUnionEitherOrder", fn := fun _ => fun
  | [d1, d2, d3, d4, d5, d6, d7, d8, d9, d10] => { results := [.lit (.bool true)], args := [d1, d2, d3, d4, d5, d6, d7, d8, d9, d10] }
  | _ => none }
def fnHoldVoteTotalIsUnionEitherOrderRow : OpenClaim := { program := "qxb6603397a", sum := "562ebf3d213aabb852066ba64e97a366dabb164723a579c4929f0330dc058d00", func := "example.com/headwater/headwater/zzlaws_root_b1.FnHoldVoteTotalIsUnionEitherOrder", spec := "fnHoldVoteTotalIsUnionEitherOrder", plainKeys := false, apart := false }
def FnHoldVoteTotalIsUnionEitherOrderSaid : Prop := fnHoldVoteTotalIsUnionEitherOrderRow.holds Try.pinned (OpenSpec.ofChange fnHoldVoteTotalIsUnionEitherOrderSpec)

/-- ITS FALSE NEIGHBOUR: 'it returns false'. Refute it at one input. -/
def fnHoldVoteTotalIsUnionEitherOrderWrong : ChangeSpec := { name := "fnHoldVoteTotalIsUnionEitherOrder", fn := fun _ => fun
  | [d1, d2, d3, d4, d5, d6, d7, d8, d9, d10] => { results := [.lit (.bool false)], args := [d1, d2, d3, d4, d5, d6, d7, d8, d9, d10] }
  | _ => none }
def FnHoldVoteTotalIsUnionEitherOrderWrongFalsely : Prop := fnHoldVoteTotalIsUnionEitherOrderRow.holds Try.pinned (OpenSpec.ofChange fnHoldVoteTotalIsUnionEitherOrderWrong)

end Rows
end Go.Proofs.Qxb6603397a

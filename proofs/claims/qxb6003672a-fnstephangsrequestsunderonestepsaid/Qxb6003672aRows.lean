/-
  No cell of these rows narrows 'for every input' (looked for: loops, veiled, ifaces, maps, wideKeys, modest, calm, conditions, laid).
  DERIVED. THE GIVEN ROWS OF THIS SEAT. 4 by the template 'for every input the law returns true; each argument reads behind the call as it read before'; 0 by the template 'total and deterministic' (their statements: Qxb6003672aTotals.lean).
  GIVEN WITH THE SEED: the statements are not yours to turn. If you find one false, say at which input.
  Laid BY PROGRAM, IN A SANDBOX (cutbox-rows.mjs): the forced cells as the released guide's own fill.sh prints them over the translation 8b95270a1448d795… (all of the seat's roots in one cut). By AI agents, Wed Nov 11 2026. No macro, syntax, notation, axiom, sorry.
-/
import Derived.Test.Qxb6003672aChecked
import GoSem.Claim
import GoSem.ClaimJoined
import GoSem.ClaimMapViews
import Derived.JoinedTies
import Derived.KernelRfl
namespace Go.Proofs.Qxb6003672a
/- THE CELL 'sum', in the pinned program and in every row, IS THE sha256 OF THE DUMP (.gsa) THAT Qxb6003672aProg.lean LOADS. Nothing in Lean hashes anything: it is a label: what it is worth is what the hold of that sum in a sandbox is worth. -/
noncomputable def Try.pinned : Pinned := { name := "qxb6003672a", sum := "8b95270a1448d795ef8686cd891e4cf0459517ac9c645f9f522410e5c3c8cb31", checked := Try.checked }
namespace Rows
def none {H : Type} : Left H := { results := [], args := [] }

/-- 'zzlaws_internal_waitgraph_g1.FnGraphListsEachWaitUnderWaiterAndTarget': WHATEVER THE INPUT: true; the input reads as it did. -/
def fnGraphListsEachWaitUnderWaiterAndTargetSpec : ChangeSpec := { name := "fnGraphListsEachWaitUnderWaiterAndTarget", fn := fun _ => fun
  | [d1, d2, d3] => { results := [.lit (.bool true)], args := [d1, d2, d3] }
  | _ => none }
def fnGraphListsEachWaitUnderWaiterAndTargetRow : OpenClaim := { program := "qxb6003672a", sum := "8b95270a1448d795ef8686cd891e4cf0459517ac9c645f9f522410e5c3c8cb31", func := "example.com/knotwise/knotwise/zzlaws_internal_waitgraph_g1.FnGraphListsEachWaitUnderWaiterAndTarget", spec := "fnGraphListsEachWaitUnderWaiterAndTarget", apart := false }
def FnGraphListsEachWaitUnderWaiterAndTargetSaid : Prop := fnGraphListsEachWaitUnderWaiterAndTargetRow.holds Try.pinned (OpenSpec.ofChange fnGraphListsEachWaitUnderWaiterAndTargetSpec)

/-- ITS FALSE NEIGHBOUR: 'it returns false'. Refute it at one input. -/
def fnGraphListsEachWaitUnderWaiterAndTargetWrong : ChangeSpec := { name := "fnGraphListsEachWaitUnderWaiterAndTarget", fn := fun _ => fun
  | [d1, d2, d3] => { results := [.lit (.bool false)], args := [d1, d2, d3] }
  | _ => none }
def FnGraphListsEachWaitUnderWaiterAndTargetWrongFalsely : Prop := fnGraphListsEachWaitUnderWaiterAndTargetRow.holds Try.pinned (OpenSpec.ofChange fnGraphListsEachWaitUnderWaiterAndTargetWrong)

/-- 'zzlaws_internal_waitgraph_g1.FnResetBuilderAgreesWithFresh': WHATEVER THE INPUT: true; the input reads as it did. -/
def fnResetBuilderAgreesWithFreshSpec : ChangeSpec := { name := "fnResetBuilderAgreesWithFresh", fn := fun _ => fun
  | [d1, d2, d3, d4, d5, d6, d7, d8, d9, d10, d11, d12] => { results := [.lit (.bool true)], args := [d1, d2, d3, d4, d5, d6, d7, d8, d9, d10, d11, d12] }
  | _ => none }
def fnResetBuilderAgreesWithFreshRow : OpenClaim := { program := "qxb6003672a", sum := "8b95270a1448d795ef8686cd891e4cf0459517ac9c645f9f522410e5c3c8cb31", func := "example.com/knotwise/knotwise/zzlaws_internal_waitgraph_g1.FnResetBuilderAgreesWithFresh", spec := "fnResetBuilderAgreesWithFresh", apart := false }
def FnResetBuilderAgreesWithFreshSaid : Prop := fnResetBuilderAgreesWithFreshRow.holds Try.pinned (OpenSpec.ofChange fnResetBuilderAgreesWithFreshSpec)

/-- ITS FALSE NEIGHBOUR: 'it returns false'. Refute it at one input. -/
def fnResetBuilderAgreesWithFreshWrong : ChangeSpec := { name := "fnResetBuilderAgreesWithFresh", fn := fun _ => fun
  | [d1, d2, d3, d4, d5, d6, d7, d8, d9, d10, d11, d12] => { results := [.lit (.bool false)], args := [d1, d2, d3, d4, d5, d6, d7, d8, d9, d10, d11, d12] }
  | _ => none }
def FnResetBuilderAgreesWithFreshWrongFalsely : Prop := fnResetBuilderAgreesWithFreshRow.holds Try.pinned (OpenSpec.ofChange fnResetBuilderAgreesWithFreshWrong)

/-- 'zzlaws_internal_waitgraph_g1.FnStepHangsRequestsUnderOneStep': WHATEVER THE INPUT: true; the input reads as it did. -/
def fnStepHangsRequestsUnderOneStepSpec : ChangeSpec := { name := "fnStepHangsRequestsUnderOneStep", fn := fun _ => fun
  | [d1, d2, d3, d4] => { results := [.lit (.bool true)], args := [d1, d2, d3, d4] }
  | _ => none }
def fnStepHangsRequestsUnderOneStepRow : OpenClaim := { program := "qxb6003672a", sum := "8b95270a1448d795ef8686cd891e4cf0459517ac9c645f9f522410e5c3c8cb31", func := "example.com/knotwise/knotwise/zzlaws_internal_waitgraph_g1.FnStepHangsRequestsUnderOneStep", spec := "fnStepHangsRequestsUnderOneStep", apart := false }
def FnStepHangsRequestsUnderOneStepSaid : Prop := fnStepHangsRequestsUnderOneStepRow.holds Try.pinned (OpenSpec.ofChange fnStepHangsRequestsUnderOneStepSpec)

/-- ITS FALSE NEIGHBOUR: 'it returns false'. Refute it at one input. -/
def fnStepHangsRequestsUnderOneStepWrong : ChangeSpec := { name := "fnStepHangsRequestsUnderOneStep", fn := fun _ => fun
  | [d1, d2, d3, d4] => { results := [.lit (.bool false)], args := [d1, d2, d3, d4] }
  | _ => none }
def FnStepHangsRequestsUnderOneStepWrongFalsely : Prop := fnStepHangsRequestsUnderOneStepRow.holds Try.pinned (OpenSpec.ofChange fnStepHangsRequestsUnderOneStepWrong)

/-- 'zzlaws_internal_waitgraph_g1.FnRequirementNumbersFresh': WHATEVER THE INPUT: true; the input reads as it did. -/
def fnRequirementNumbersFreshSpec : ChangeSpec := { name := "fnRequirementNumbersFresh", fn := fun _ => fun
  | [d1, d2, d3] => { results := [.lit (.bool true)], args := [d1, d2, d3] }
  | _ => none }
def fnRequirementNumbersFreshRow : OpenClaim := { program := "qxb6003672a", sum := "8b95270a1448d795ef8686cd891e4cf0459517ac9c645f9f522410e5c3c8cb31", func := "example.com/knotwise/knotwise/zzlaws_internal_waitgraph_g1.FnRequirementNumbersFresh", spec := "fnRequirementNumbersFresh", apart := false }
def FnRequirementNumbersFreshSaid : Prop := fnRequirementNumbersFreshRow.holds Try.pinned (OpenSpec.ofChange fnRequirementNumbersFreshSpec)

/-- ITS FALSE NEIGHBOUR: 'it returns false'. Refute it at one input. -/
def fnRequirementNumbersFreshWrong : ChangeSpec := { name := "fnRequirementNumbersFresh", fn := fun _ => fun
  | [d1, d2, d3] => { results := [.lit (.bool false)], args := [d1, d2, d3] }
  | _ => none }
def FnRequirementNumbersFreshWrongFalsely : Prop := fnRequirementNumbersFreshRow.holds Try.pinned (OpenSpec.ofChange fnRequirementNumbersFreshWrong)

end Rows
end Go.Proofs.Qxb6003672a

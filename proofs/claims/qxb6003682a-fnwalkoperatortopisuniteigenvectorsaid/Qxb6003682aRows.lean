/-
  No cell of these rows narrows 'for every input' (looked for: loops, veiled, ifaces, maps, wideKeys, modest, calm, conditions, laid).
  DERIVED. THE GIVEN ROWS OF THIS SEAT. 4 by the template 'for every input the law returns true; each argument reads behind the call as it read before'; 0 by the template 'total and deterministic' (their statements: Qxb6003682aTotals.lean).
  GIVEN WITH THE SEED: the statements are not yours to turn. If you find one false, say at which input.
  Laid BY PROGRAM, IN A SANDBOX (cutbox-rows.mjs): the forced cells as the released guide's own fill.sh prints them over the translation 8da45a885b13454b… (all of the seat's roots in one cut). By AI agents, Wed Nov 11 2026. No macro, syntax, notation, axiom, sorry.
-/
import Derived.Test.Qxb6003682aChecked
import GoSem.Claim
import GoSem.ClaimJoined
import GoSem.ClaimMapViews
import Derived.JoinedTies
import Derived.KernelRfl
namespace Go.Proofs.Qxb6003682a
/- THE CELL 'sum', in the pinned program and in every row, IS THE sha256 OF THE DUMP (.gsa) THAT Qxb6003682aProg.lean LOADS. Nothing in Lean hashes anything: it is a label: what it is worth is what the hold of that sum in a sandbox is worth. -/
noncomputable def Try.pinned : Pinned := { name := "qxb6003682a", sum := "8da45a885b13454b5cd4046461d8bcbd78ba06b714d8af7843126858cee71200", checked := Try.checked }
namespace Rows
def none {H : Type} : Left H := { results := [], args := [] }

/-- 'zzlaws_graph_g2.FnEdgesListEachLinkOnceAscending': WHATEVER THE INPUT: true; the input reads as it did. -/
def fnEdgesListEachLinkOnceAscendingSpec : ChangeSpec := { name := "fnEdgesListEachLinkOnceAscending", fn := fun _ => fun
  | [d1, d2] => { results := [.lit (.bool true)], args := [d1, d2] }
  | _ => none }
def fnEdgesListEachLinkOnceAscendingRow : OpenClaim := { program := "qxb6003682a", sum := "8da45a885b13454b5cd4046461d8bcbd78ba06b714d8af7843126858cee71200", func := "example.com/churnweave/churnweave/zzlaws_graph_g2.FnEdgesListEachLinkOnceAscending", spec := "fnEdgesListEachLinkOnceAscending", apart := false }
def FnEdgesListEachLinkOnceAscendingSaid : Prop := fnEdgesListEachLinkOnceAscendingRow.holds Try.pinned (OpenSpec.ofChange fnEdgesListEachLinkOnceAscendingSpec)

/-- ITS FALSE NEIGHBOUR: 'it returns false'. Refute it at one input. -/
def fnEdgesListEachLinkOnceAscendingWrong : ChangeSpec := { name := "fnEdgesListEachLinkOnceAscending", fn := fun _ => fun
  | [d1, d2] => { results := [.lit (.bool false)], args := [d1, d2] }
  | _ => none }
def FnEdgesListEachLinkOnceAscendingWrongFalsely : Prop := fnEdgesListEachLinkOnceAscendingRow.holds Try.pinned (OpenSpec.ofChange fnEdgesListEachLinkOnceAscendingWrong)

/-- 'zzlaws_graph_g2.FnWalkOperatorTopIsUnitEigenvector': WHATEVER THE INPUT: true; the input reads as it did. -/
def fnWalkOperatorTopIsUnitEigenvectorSpec : ChangeSpec := { name := "fnWalkOperatorTopIsUnitEigenvector", fn := fun _ => fun
  | [d1, d2] => { results := [.lit (.bool true)], args := [d1, d2] }
  | _ => none }
def fnWalkOperatorTopIsUnitEigenvectorRow : OpenClaim := { program := "qxb6003682a", sum := "8da45a885b13454b5cd4046461d8bcbd78ba06b714d8af7843126858cee71200", func := "example.com/churnweave/churnweave/zzlaws_graph_g2.FnWalkOperatorTopIsUnitEigenvector", spec := "fnWalkOperatorTopIsUnitEigenvector", inPlace := ["math.sqrt"], apart := false }
def FnWalkOperatorTopIsUnitEigenvectorSaid : Prop := fnWalkOperatorTopIsUnitEigenvectorRow.holds Try.pinned (OpenSpec.ofChange fnWalkOperatorTopIsUnitEigenvectorSpec)

/-- ITS FALSE NEIGHBOUR: 'it returns false'. Refute it at one input. -/
def fnWalkOperatorTopIsUnitEigenvectorWrong : ChangeSpec := { name := "fnWalkOperatorTopIsUnitEigenvector", fn := fun _ => fun
  | [d1, d2] => { results := [.lit (.bool false)], args := [d1, d2] }
  | _ => none }
def FnWalkOperatorTopIsUnitEigenvectorWrongFalsely : Prop := fnWalkOperatorTopIsUnitEigenvectorRow.holds Try.pinned (OpenSpec.ofChange fnWalkOperatorTopIsUnitEigenvectorWrong)

/-- 'zzlaws_graph_g2.FnDotExactOnSmallIntegers': WHATEVER THE INPUT: true; the input reads as it did. -/
def fnDotExactOnSmallIntegersSpec : ChangeSpec := { name := "fnDotExactOnSmallIntegers", fn := fun _ => fun
  | [d1, d2] => { results := [.lit (.bool true)], args := [d1, d2] }
  | _ => none }
def fnDotExactOnSmallIntegersRow : OpenClaim := { program := "qxb6003682a", sum := "8da45a885b13454b5cd4046461d8bcbd78ba06b714d8af7843126858cee71200", func := "example.com/churnweave/churnweave/zzlaws_graph_g2.FnDotExactOnSmallIntegers", spec := "fnDotExactOnSmallIntegers", apart := false }
def FnDotExactOnSmallIntegersSaid : Prop := fnDotExactOnSmallIntegersRow.holds Try.pinned (OpenSpec.ofChange fnDotExactOnSmallIntegersSpec)

/-- ITS FALSE NEIGHBOUR: 'it returns false'. Refute it at one input. -/
def fnDotExactOnSmallIntegersWrong : ChangeSpec := { name := "fnDotExactOnSmallIntegers", fn := fun _ => fun
  | [d1, d2] => { results := [.lit (.bool false)], args := [d1, d2] }
  | _ => none }
def FnDotExactOnSmallIntegersWrongFalsely : Prop := fnDotExactOnSmallIntegersRow.holds Try.pinned (OpenSpec.ofChange fnDotExactOnSmallIntegersWrong)

/-- 'zzlaws_graph_g2.FnClipIdempotentKeepsPrefix': WHATEVER THE INPUT: true; the input reads as it did. -/
def fnClipIdempotentKeepsPrefixSpec : ChangeSpec := { name := "fnClipIdempotentKeepsPrefix", fn := fun _ => fun
  | [d] => { results := [.lit (.bool true)], args := [d] }
  | _ => none }
def fnClipIdempotentKeepsPrefixRow : OpenClaim := { program := "qxb6003682a", sum := "8da45a885b13454b5cd4046461d8bcbd78ba06b714d8af7843126858cee71200", func := "example.com/churnweave/churnweave/zzlaws_graph_g2.FnClipIdempotentKeepsPrefix", spec := "fnClipIdempotentKeepsPrefix", apart := false }
def FnClipIdempotentKeepsPrefixSaid : Prop := fnClipIdempotentKeepsPrefixRow.holds Try.pinned (OpenSpec.ofChange fnClipIdempotentKeepsPrefixSpec)

/-- ITS FALSE NEIGHBOUR: 'it returns false'. Refute it at one input. -/
def fnClipIdempotentKeepsPrefixWrong : ChangeSpec := { name := "fnClipIdempotentKeepsPrefix", fn := fun _ => fun
  | [d] => { results := [.lit (.bool false)], args := [d] }
  | _ => none }
def FnClipIdempotentKeepsPrefixWrongFalsely : Prop := fnClipIdempotentKeepsPrefixRow.holds Try.pinned (OpenSpec.ofChange fnClipIdempotentKeepsPrefixWrong)

end Rows
end Go.Proofs.Qxb6003682a

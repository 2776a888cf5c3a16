import Derived.Test.Qxb6003672aLeaf
import Derived.Deep.QuietTactic
import Derived.BigQuiet
namespace Go.Proofs.Qxb6003672a
open Go.RowKit
set_option linter.unusedVariables false

/-- ZZGraphFields: the six slices as they are; one block is laid -/
theorem fields_any (v0 v1 v2 v3 v4 v5 : Option Addr) (l0 l1 l2 l3 l4 l5 c0 c1 c2 c3 c4 c5 : Nat) (w : World) :
    Calls Try.prog 12 #[.agg #[.slice v0 l0 c0, .slice v1 l1 c1, .slice v2 l2 c2, .slice v3 l3 c3, .slice v4 l4 c4, .slice v5 l5 c5]] w fun e w' =>
      e = .returned (.tuple #[.slice v0 l0 c0, .slice v1 l1 c1, .slice v2 l2 c2, .slice v3 l3 c3, .slice v4 l4 c4, .slice v5 l5 c5]) ∧ Fr (· < w.heap.size) w w' := by
  go_enter Try.func12, Try.ntmps12
  go_wp2
  go_quiet (fail)
  go_wp2
  refine bodyPost_ret (v := .tuple #[.slice v0 l0 c0, .slice v1 l1 c1, .slice v2 l2 c2, .slice v3 l3 c3, .slice v4 l4 c4, .slice v5 l5 c5]) ?_ rfl ?_
  · simp [results, Try.results12, go_sem]
  · refine ⟨rfl, ?_⟩
    have f := (Fr.refl (· < w.heap.size) w).alloc (fun _ e => e) (.cells #[.slice v0 l0 c0, .slice v1 l1 c1, .slice v2 l2 c2, .slice v3 l3 c3, .slice v4 l4 c4, .slice v5 l5 c5] 31)
    exact ⟨f.os, f.tape, f.output, f.size, f.block⟩

end Go.Proofs.Qxb6003672a

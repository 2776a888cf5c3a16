/-
  THE PROOF OF 'Rows.FnStepHangsRequestsUnderOneStepSaid', in the guide's own way (the frame of the seat's other proofs, turned to this function).
-/
import Derived.Test.Qxb6003672aRows
import Derived.Test.Qxb6003672aStLaw
import Derived.Deep.Matrix
import Derived.WalkKit
import Derived.ProofKit
import Derived.OpenShut
import Derived.ShutString
import Derived.ChangeOld
import Derived.Below
namespace Go.Proofs.Qxb6003672a.fnStepHangsRequestsUnderOneStep
open Go.ChangeShapes Go.WideShapes Go.ChangeAt Go.RowKit
open Go.ChangeMaps (open_string shut_string)
set_option linter.unusedVariables false

theorem own : ownKnob Try.prog.godebug = none := by kernel_rfl
theorem laidOut : laidOutB Try.prog = true := by kernel_rfl

set_option maxRecDepth 100000 in
theorem lifted (os : Os) (started : os.Started) (H : Type) (enc : TypeId × Value → H) :
    ReturnsInHanded {} Try.checked os 5 .any (Rows.fnStepHangsRequestsUnderOneStepSpec.pre6 enc Try.prog Try.f5 Rows.fnStepHangsRequestsUnderOneStepRow.domain false) (Rows.fnStepHangsRequestsUnderOneStepSpec.post enc Try.prog Try.f5 false true false false) := by
  refine returnsInHanded_of_change (C := Try.checked) own started (by kernel_rfl) Try.func5
    (ChangeSpec.witness6 (enc := enc) (C := Try.checked) false ⟨#[], #[.int .i64 0, .int .i64 0, .int .i64 0, .slice none 0 0], []⟩ 8 (by kernel_rfl) (by kernel_rfl) (by kernel_rfl) (by kernel_rfl)) ?_
  intro W base args ds gs before hval0 hW hcnd _
  have hval : ∀ (j : Nat) t v, Try.f5.params[j]? = some t → args[j]? = some v → Value.okWide Try.prog W .any base t v := hval0
  have hW' := hW
  obtain ⟨p, q, hA0, hV, rfl, hfz, hnd⟩ := hW
  have hA : DataW.TrodAll enc Try.prog W 0 (fun _ => true) true Try.f5.params.toList args.toList ds p := hA0
  rw [Try.params5] at hA hval
  obtain ⟨v0, vs0, d0, ds0, p0, q0, hargs, rfl, rfl, h0, r0⟩ := trodAll_cons hA
  obtain ⟨v1, vs1, d1, ds1, p1, q1, rfl, rfl, rfl, h1, r1⟩ := trodAll_cons r0
  obtain ⟨v2, vs2, d2, ds2, p2, q2, rfl, rfl, rfl, h2, r2⟩ := trodAll_cons r1
  obtain ⟨v3, vs3, d3, ds3, p3, q3, rfl, rfl, rfl, h3, r3⟩ := trodAll_cons r2
  obtain ⟨rfl, rfl, rfl⟩ := trodAll_nil r3
  obtain rfl : args = #[v0, v1, v2, v3] := by cases args; simp_all
  obtain ⟨rfl, rfl⟩ := trodVars_none hV
  obtain ⟨a0, rfl, rfl, rfl, w0⟩ := open_int Try.underlying3 (hval 0 3 v0 rfl rfl) h0
  obtain ⟨a1, rfl, rfl, rfl, w1⟩ := open_int Try.underlying3 (hval 1 3 v1 rfl rfl) h1
  obtain ⟨a2, rfl, rfl, rfl, w2⟩ := open_int Try.underlying3 (hval 2 3 v2 rfl rfl) h2
  obtain ⟨a3, len3, cap3, rfl⟩ := okWide_slice Try.underlying33 (hval 3 33 v3 rfl rfl)
  have k3 := h3
  have lt3 : ∀ x ∈ p3, x.block < W.heap.size := by obtain ⟨m, hm⟩ := k3; exact DataW.trod_lt m _ _ _ hm
  obtain ⟨rs, m3, l3, w3, f3⟩ : ∃ rs : Nat → List Int, len3 ≤ maxLen ∧ (∀ i, i < len3 → (rs i).length ≤ maxLen) ∧ RwsI W a3 len3 rs ∧ ((a3 = none ∧ len3 = 0 ∧ cap3 = 0) ∨ ∃ x, a3 = some x) := by
    obtain ⟨fuel, hf⟩ := h3
    rcases Go.Deep.open_int_rows Try.underlying33 Try.underlying22 Try.underlying3 (by kernel_rfl) (by kernel_rfl) hf with ⟨hcs, _⟩ | ⟨x, l, c, A, L, C, Z, hcs, _, hl, hm, _, hr⟩
    · simp [Value.cells] at hcs
      obtain ⟨rfl, rfl, rfl⟩ := hcs
      exact ⟨fun _ => [], Nat.zero_le _, fun i hi => by omega, fun i hi => by omega, .inl ⟨rfl, rfl, rfl⟩⟩
    · simp [Value.cells] at hcs
      obtain ⟨rfl, rfl, rfl⟩ := hcs
      have hlen : ∀ i, i < cap3 → ((Z i).take (L i)).length = L i := fun i hi => by
        obtain ⟨_, h1, _, h2, _⟩ := hr i hi
        rw [List.length_take]
        omega
      refine ⟨fun i => (Z i).take (L i), by omega, fun i hi => ?_, fun i hi => ?_, .inr ⟨_, rfl⟩⟩
      · show ((Z i).take (L i)).length ≤ _
        rw [hlen i (by omega)]
        obtain ⟨_, h1, h2, _⟩ := hr i (by omega)
        omega
      · have e := hlen i (by omega)
        obtain ⟨hc, h1, h2, h4, h5, h6, h7⟩ := hr i (by omega)
        refine ⟨x, A i, C i, Z i, rfl, ?_, ?_, ?_⟩
        · show _ = some (Value.slice (A i) ((Z i).take (L i)).length (C i))
          rw [e]
          exact hc
        · show IsRow .i64 W (A i) ((Z i).take (L i)).length (C i) (Z i)
          rw [e]
          cases hA : A i with
          | none =>
            have hc0 := h6 hA
            exact .inl ⟨rfl, by omega, hc0, List.eq_nil_of_length_eq_zero (by omega)⟩
          | some y => exact .inr ⟨y, rfl, h1, h2, h4, fun j hj => (h7 y hA).2 j (by omega), h5⟩
        · show (Z i).take ((Z i).take (L i)).length = (Z i).take (L i)
          rw [e]
  clear hA0 hval0
  refine (law5 a0 a1 a2 a3 len3 cap3 rs W m3 l3 w3 f3).mono fun e W' ⟨he, bel⟩ => ?_
  subst he
  exact ⟨_, rfl, _, _, _, [], _, [], hW', trodAll_mk1 (shut_bool Try.underlying4 _), (trodAll_cons_mk (shut_int Try.underlying3 w0) (trodAll_cons_mk (shut_int Try.underlying3 w1) (trodAll_cons_mk (shut_int Try.underlying3 w2) (trodAll_cons_mk (Below.trod laidOut (by kernel_rfl) (of_decide_eq_true (by kernel_rfl)) k3 bel lt3) trodAll_mk0)))), rfl, bel.frame _, fun h => by cases h⟩

theorem over : Rows.fnStepHangsRequestsUnderOneStepRow.holds Try.pinned (OpenSpec.ofChange Rows.fnStepHangsRequestsUnderOneStepSpec) :=
  OpenClaim.holds_of_wide 5 Try.f5 rfl rfl rfl rfl rfl rfl rfl ⟨rfl, rfl, rfl, rfl, rfl⟩ rfl rfl rfl rfl rfl (by kernel_rfl) Try.func5 (by kernel_rfl)
    (of_decide_eq_true (by kernel_rfl)) (by unfold Func.isWrapper; first | (rw [if_pos (by decide +kernel)]; kernel_rfl) | (rw [if_neg (by decide +kernel)]; exact ⟨rfl, rfl⟩))
    (fun os started H enc _ => lifted os started H enc)

/-- ████ THE STATEMENT ████ -/
theorem proved : Rows.FnStepHangsRequestsUnderOneStepSaid := over
#print axioms proved
end Go.Proofs.Qxb6003672a.fnStepHangsRequestsUnderOneStep

/-
  THE PROOF OF 'Rows.FnWalkOperatorTopIsUnitEigenvectorSaid', in the guide's own way (the frame of the seat's other proofs, turned to this function).
-/
import Derived.Test.Qxb6003682aRows
import Derived.Test.Qxb6003682aWkMain
import Derived.Deep.Grids
import Derived.WalkKit
import Derived.ProofKit
import Derived.OpenShut
import Derived.ShutString
import Derived.ChangeOld
import Derived.Below
namespace Go.Proofs.Qxb6003682a.fnWalkOperatorTopIsUnitEigenvector
open Go.ChangeShapes Go.WideShapes Go.ChangeAt Go.RowKit
open Go.ChangeMaps (open_string shut_string)
set_option linter.unusedVariables false

theorem own : ownKnob Try.prog.godebug = none := by kernel_rfl
theorem laidOut : laidOutB Try.prog = true := by kernel_rfl

theorem bytes14g (a1 : Option Addr) (l1 c1 : Nat) (a2 : Option Addr) (l2 c2 : Nat) (w : World) (h1 : l1 ≤ 9223372036854775807) (h2 : l2 ≤ 9223372036854775807) (h : 1048576 < l1 ∨ 1048576 < l2) :
    Calls Try.prog 14 #[.slice a1 l1 c1, .slice a2 l2 c2] w fun e w' => e = .returned (.bool false) ∧ w = w' := by
  by_cases c : 1048576 < l1
  · clear h
    go_enter Try.func14, Try.ntmps14
    go_wp2
    go_ret
    exact ⟨rfl, rfl⟩
  · have h' : 1048576 < l2 := by omega
    clear h
    go_enter Try.func14, Try.ntmps14
    go_wp2
    all_goals (go_ret; exact ⟨rfl, rfl⟩)

/-- WHAT THE WALK IS TOLD OF A SLICE OF INTEGERS THAT CAME IN: it is nil; or it leads to a row of 'cap' cells, the numbers 'zs' (the first 'len' are its elements, the rest its spare room), each fitting its kind. -/
def IsRow (k : IntKind) (w : World) (a : Option Addr) (len cap : Nat) (zs : List Int) : Prop :=
  (a = none ∧ len = 0 ∧ cap = 0 ∧ zs = []) ∨
  ∃ x, a = some x ∧ len ≤ cap ∧ cap ≤ maxLen ∧ zs.length = cap ∧ (∀ i, i < zs.length → w.cell? (x.add i) = some (.int k (zs.getD i 0))) ∧ ∀ n ∈ zs, (Lit.int k n).wf = true

/-! ### STEP 1: THE WALK: the Go text returns true, AND WRITES NOTHING THAT WAS THERE: 'Below w.heap.size w w'' (Derived/Below.lean: '.refl', '.alloc', '.drew', '.setCell' at a new block, '.trans'). Open each 'IsRow' by 'rcases' AHEAD of 'go_enter'; part every test ahead of the walk. -/
theorem IsRow.cel {k : IntKind} {w : World} {a : Option Addr} {len cap : Nat} {zs : List Int} (h : IsRow k w a len cap zs) : Cel w a len cap (fun i => .int k (zs.getD i 0)) := by
  rcases h with ⟨e1, e2, e3, _⟩ | ⟨x, e, hl, _, hz, hc, _⟩
  · exact .inl ⟨e1, e2, e3⟩
  · exact .inr ⟨x, e, fun i hi => hc i (by omega)⟩
theorem IsRow.len {k : IntKind} {w : World} {a : Option Addr} {len cap : Nat} {zs : List Int} (h : IsRow k w a len cap zs) : len ≤ maxLen := by
  rcases h with ⟨e1, e2, e3, _⟩ | ⟨x, e, hl, hm, _⟩
  · omega
  · omega

set_option maxRecDepth 100000 in
set_option maxHeartbeats 2000000 in
theorem walk (a0 : Option Addr) (len0 cap0 : Nat) (z0 : List Int) (a1 : Option Addr) (len1 cap1 : Nat) (M : Nat → Bool) (w : World) (w0 : IsRow .i64 w a0 len0 cap0 z0) (w1 : Cel w a1 len1 cap1 (fun i => .bool (M i))) (m1 : len1 ≤ maxLen) :
    Calls Try.prog 4 #[.slice a0 len0 cap0, .slice a1 len1 cap1] w fun e w' => e = .returned (.bool true) ∧ Below w.heap.size w w' := by
  have m0 := w0.len
  unfold maxLen at m0 m1
  by_cases c0 : 1048576 < len0
  · clear w0 w1
    go_enter Try.func4, Try.ntmps4
    go_wp2_with fail
    refine (bytes14g _ _ _ _ _ _ _ (by omega) (by omega) (.inl c0)).mono ?_
    rintro e w' ⟨rfl, rfl⟩
    go_wp2
    go_ret
    exact ⟨rfl, Below.refl _ _⟩
  by_cases c1 : 1048576 < len1
  · clear w0 w1
    go_enter Try.func4, Try.ntmps4
    go_wp2_with fail
    refine (bytes14g _ _ _ _ _ _ _ (by omega) (by omega) (.inr c1)).mono ?_
    rintro e w' ⟨rfl, rfl⟩
    go_wp2
    go_ret
    exact ⟨rfl, Below.refl _ _⟩
  by_cases c2 : 64 < len0 ∨ 4096 < len1
  · clear w0 w1
    go_enter Try.func4, Try.ntmps4
    go_wp2_with fail
    refine (bytes14 _ _ _ _ _ _ _ (by omega) (by omega)).mono ?_
    rintro e w' ⟨⟨bb, rfl⟩, rfl⟩
    have hd : (decide (64 < (len0 : Int)) || decide (4096 < (len1 : Int))) = true := by
      rcases c2 with h | h
      · simp; omega
      · simp; omega
    by_cases c3 : 64 < len0
    · cases bb <;> (go_wp2; all_goals (go_ret; exact ⟨rfl, Below.refl _ _⟩))
    · have c4 : 4096 < len1 := by omega
      cases bb <;> (go_wp2; all_goals (go_ret; exact ⟨rfl, Below.refl _ _⟩))
  by_cases c5 : len0 = 0
  · subst c5
    clear w0 w1
    go_enter Try.func4, Try.ntmps4
    go_wp2_with fail
    refine (bytes14 _ _ _ _ _ _ _ (by omega) (by omega)).mono ?_
    rintro e w' ⟨⟨bb, rfl⟩, rfl⟩
    have c6 : ¬ 4096 < len1 := by omega
    cases bb <;> (go_wp2; all_goals (go_ret; exact ⟨rfl, Below.refl _ _⟩))
  exact law4 a0 len0 cap0 _ a1 len1 cap1 M w w0.cel w1 (by omega) (by omega) (by omega)

/-! ### THE ROW's STEP: WRITTEN OUT: LEAVE IT -/
set_option maxRecDepth 100000 in
theorem lifted (os : Os) (started : os.Started) (H : Type) (enc : TypeId × Value → H) :
    ReturnsInHanded {} Try.checked os 4 .any (Rows.fnWalkOperatorTopIsUnitEigenvectorSpec.pre6 enc Try.prog Try.f4 Rows.fnWalkOperatorTopIsUnitEigenvectorRow.domain false) (Rows.fnWalkOperatorTopIsUnitEigenvectorSpec.post enc Try.prog Try.f4 false true false false) := by
  refine returnsInHanded_of_change (C := Try.checked) own started (by kernel_rfl) Try.func4
    (ChangeSpec.witness6 (enc := enc) (C := Try.checked) false ⟨#[], #[.slice none 0 0, .slice none 0 0], []⟩ 8 (by kernel_rfl) (by kernel_rfl) (by kernel_rfl) (by kernel_rfl)) ?_
  intro W base args ds gs before hval0 hW hcnd _
  have hval : ∀ (j : Nat) t v, Try.f4.params[j]? = some t → args[j]? = some v → Value.okWide Try.prog W .any base t v := hval0
  have hW' := hW
  obtain ⟨p, q, hA0, hV, rfl, hfz, hnd⟩ := hW
  have hA : DataW.TrodAll enc Try.prog W 0 (fun _ => true) true Try.f4.params.toList args.toList ds p := hA0
  rw [Try.params4] at hA hval
  obtain ⟨v0, vs0, d0, ds0, p0, q0, hargs, rfl, rfl, h0, r0⟩ := trodAll_cons hA
  obtain ⟨v1, vs1, d1, ds1, p1, q1, rfl, rfl, rfl, h1, r1⟩ := trodAll_cons r0
  obtain ⟨rfl, rfl, rfl⟩ := trodAll_nil r1
  obtain rfl : args = #[v0, v1] := by cases args; simp_all
  obtain ⟨rfl, rfl⟩ := trodVars_none hV
  obtain ⟨a0, len0, cap0, rfl⟩ := okWide_slice Try.underlying22 (hval 0 22 v0 rfl rfl)
  have k0 := h0
  have lt0 : ∀ x ∈ p0, x.block < W.heap.size := by obtain ⟨m, hm⟩ := k0; exact DataW.trod_lt m _ _ _ hm
  obtain ⟨z0, w0⟩ : ∃ zs, IsRow .i64 W a0 len0 cap0 zs := by
    obtain ⟨fuel, hf⟩ := h0
    rcases open_ints Try.underlying22 Try.underlying2 (by kernel_rfl) hf with ⟨hcs, _⟩ | ⟨x, l, c, zs, hcs, _, hl, hm, hz, _, hcell, hwz⟩
    · simp [Value.cells] at hcs
      obtain ⟨rfl, rfl, rfl⟩ := hcs
      exact ⟨[], .inl ⟨rfl, rfl, rfl, rfl⟩⟩
    · simp [Value.cells] at hcs
      obtain ⟨rfl, rfl, rfl⟩ := hcs
      exact ⟨zs, .inr ⟨_, rfl, hl, hm, by simpa using hz, hcell, hwz⟩⟩
  obtain ⟨a1, len1, cap1, rfl⟩ := okWide_slice Try.underlying23 (hval 1 23 v1 rfl rfl)
  have k1 := h1
  have lt1 : ∀ x ∈ p1, x.block < W.heap.size := by obtain ⟨m, hm⟩ := k1; exact DataW.trod_lt m _ _ _ hm
  obtain ⟨M, w1, m1⟩ : ∃ M : Nat → Bool, Cel W a1 len1 cap1 (fun i => .bool (M i)) ∧ len1 ≤ maxLen := by
    obtain ⟨fuel, hf⟩ := h1
    rcases Go.Deep.open_bools Try.underlying23 Try.underlying4 (by kernel_rfl) hf with ⟨hcs, _⟩ | ⟨x, l, c, B, hcs, _, hl, hm, _, hcell⟩
    · simp [Value.cells] at hcs
      obtain ⟨rfl, rfl, rfl⟩ := hcs
      exact ⟨fun _ => false, .inl ⟨rfl, rfl, rfl⟩, Nat.zero_le _⟩
    · simp [Value.cells] at hcs
      obtain ⟨rfl, rfl, rfl⟩ := hcs
      exact ⟨B, .inr ⟨_, rfl, fun i hi => hcell i (by omega)⟩, by omega⟩
  clear hA0 hval0
  refine (walk a0 len0 cap0 z0 a1 len1 cap1 M W w0 w1 m1).mono fun e W' ⟨he, bel⟩ => ?_
  subst he
  exact ⟨_, rfl, _, _, _, [], _, [], hW', trodAll_mk1 (shut_bool Try.underlying4 _), (trodAll_cons_mk (Below.trod laidOut (by kernel_rfl) (of_decide_eq_true (by kernel_rfl)) k0 bel lt0) (trodAll_cons_mk (Below.trod laidOut (by kernel_rfl) (of_decide_eq_true (by kernel_rfl)) k1 bel lt1) trodAll_mk0)), rfl, bel.frame _, fun h => by cases h⟩

theorem over : Rows.fnWalkOperatorTopIsUnitEigenvectorRow.holds Try.pinned (OpenSpec.ofChange Rows.fnWalkOperatorTopIsUnitEigenvectorSpec) :=
  OpenClaim.holds_of_wide 4 Try.f4 rfl rfl rfl rfl rfl rfl rfl ⟨rfl, rfl, rfl, rfl, rfl⟩ rfl rfl rfl rfl rfl (by kernel_rfl) Try.func4 (by kernel_rfl)
    (of_decide_eq_true (by kernel_rfl)) (by unfold Func.isWrapper; first | (rw [if_pos (by decide +kernel)]; kernel_rfl) | (rw [if_neg (by decide +kernel)]; exact ⟨rfl, rfl⟩))
    (fun os started H enc _ => lifted os started H enc)

/-- ████ THE STATEMENT ████ -/
theorem proved : Rows.FnWalkOperatorTopIsUnitEigenvectorSaid := over
#print axioms proved
end Go.Proofs.Qxb6003682a.fnWalkOperatorTopIsUnitEigenvector

import Derived.Test.Qxb6003672aLeaf
import Derived.Lib.AppendZeros
import Derived.Lib.SliceRun
namespace Go.Proofs.Qxb6003672a
open Go.RowKit
set_option linter.unusedVariables false

theorem grow_zero (w : World) : Calls Try.prog 30 #[.slice none 0 0, .int .i64 0] w fun e w' => e = .returned (.slice none 0 0) ∧ w = w' := by
  go_enter Try.func30, Try.ntmps30
  go_wp2
  go_ret
  exact ⟨rfl, rfl⟩

theorem zeros_list (n m : Nat) : (Builtin.zeroCells #[Value.int .i64 0] n ++ Builtin.zeroCells #[Value.int .i64 0] m).toList = (List.replicate (n + m) (0 : Int)).map (Value.int .i64) := by
  have h : ∀ n, (Builtin.zeroCells #[Value.int .i64 0] n).toList = List.replicate n (Value.int .i64 0) := by
    intro n
    simp [Builtin.zeroCells]
    apply List.ext_getElem
    · simp
    · intro i h1 h2
      simp [Nat.mod_one]
  simp [h]

theorem row_zeros (w : World) (n cap m : Nat) (hc : n ≤ cap) (hcm : cap ≤ maxLen) (hm : m ≤ cap) :
    Row (w.drew.alloc (.cells (Builtin.zeroCells #[Value.int .i64 0] n ++ Builtin.zeroCells #[Value.int .i64 0] (cap - n)) 3)) (.slice (some ⟨w.heap.size, 0, none⟩) m cap) m (List.replicate m 0) := by
  refine ⟨by simp, .inr ⟨w.heap.size, cap, _, rfl, Nat.zero_le _, heap_alloc_new w.drew _, hm, hcm, ?_, ?_⟩⟩
  · rw [← Array.length_toList, zeros_list]
    simp; omega
  · rw [zeros_list, ← List.map_take, Nat.mul_one, List.take_replicate]
    congr 2
    omega

theorem fr_dalloc (w : World) (o : Obj) : Fr (· < w.heap.size) w (w.drew.alloc o) := ⟨rfl, rfl, rfl, by simp, fun k hk => Below.heap_alloc w.drew _ _ hk⟩

set_option maxHeartbeats 400000 in
theorem grow_pos (n : Nat) (w : World) (h0 : 0 < n) (hb : n ≤ 1048576) :
    Calls Try.prog 30 #[.slice none 0 0, .int .i64 n] w fun e w' => ∃ g cap, n ≤ cap ∧ e = .returned (.slice (some ⟨g, 0, none⟩) 0 cap) ∧
      (∀ m, m ≤ cap → Row w' (.slice (some ⟨g, 0, none⟩) m cap) m (List.replicate m 0)) ∧ w.heap.size ≤ g ∧ Fr (· < w.heap.size) w w' := by
  obtain ⟨i0, hi, hz0, hz1, hz2⟩ := info_parts Try.info3
  have hr := fun ty => Lib.run_append_nil_zeros (P := Try.prog) w 22 3 ty 3 i0 (.int .i64 0) .i64 .i64 Try.underlying22 Try.underlying3 hi hz0 n h0 (by omega) (by omega) (by rw [hz2]; omega)
  have hcap := grownCap_ge w n 0 3
  have hcm := grownCap_le_maxLen w n 0 3 (by unfold maxLen; omega)
  go_enter Try.func30, Try.ntmps30
  generalize grownCap w n 0 3 = cap at *
  go_wp2_with (at_builtin; refine Lib.wpList_append_run _ rfl _ _ _ _ rfl _ _ rfl rfl _ _ (hr _) ?_)
  go_ret
  refine ⟨_, cap, hcap, rfl, fun m hm => row_zeros w n cap m hcap hcm hm, Nat.le_refl _, fr_dalloc w _⟩

theorem zero3 (w : World) : (zeroValue 3).run Try.prog w = .ok (.int .i64 0) w := by kernel_rfl

theorem fr_setCells {F : Nat → Prop} {a : World} (b : Nat) (hb : ¬ F b) : ∀ (vs : List Value) (o : Nat) (w : World), Fr F a w → Fr F a (w.setCells b o vs)
  | [], _, _, h => h
  | v :: vs, o, w, h => fr_setCells b hb vs (o + 1) _ (h.setCell (p := ⟨b, o, none⟩) hb v)

theorem row_clear {g n cap : Nat} : ∀ (m o : Nat) (w : World), Row w (.slice (some ⟨g, 0, none⟩) n cap) n (List.replicate n 0) → Row (w.setCells g o (List.replicate m (.int .i64 0))) (.slice (some ⟨g, 0, none⟩) n cap) n (List.replicate n 0)
  | 0, _, _, h => h
  | m + 1, o, w, h => by
    rw [List.replicate_succ]
    refine row_clear m (o + 1) _ ?_
    have := h.set o 0
    rwa [List.set_replicate_self] at this

theorem zeroed_zero (w : World) : Calls Try.prog 29 #[.slice none 0 0, .int .i64 0] w fun e w' => e = .returned (.slice none 0 0) ∧ w = w' := by
  have hcl : ∀ ty, (Builtin.clear_ #[22] ty #[.slice none 0 0]).run Try.prog w = .ok (.tuple #[]) w := fun ty => by
    simp [Builtin.clear_, run_underlying Try.underlying22]
  go_enter Try.func29, Try.ntmps29
  go_wp2_with (first | (go_at_call 30; refine (grow_zero _).mono ?_; rintro e w' ⟨rfl, rfl⟩))
  go_ret
  exact ⟨rfl, rfl⟩

set_option maxHeartbeats 400000 in
theorem zeroed_pos (n : Nat) (w : World) (h0 : 0 < n) (hb : n ≤ 1048576) :
    Calls Try.prog 29 #[.slice none 0 0, .int .i64 n] w fun e w' => ∃ g cap, e = .returned (.slice (some ⟨g, 0, none⟩) n cap) ∧
      Row w' (.slice (some ⟨g, 0, none⟩) n cap) n (List.replicate n 0) ∧ w.heap.size ≤ g ∧ Fr (· < w.heap.size) w w' := by
  go_enter Try.func29, Try.ntmps29
  go_wp2_with fail
  refine (grow_pos n _ h0 hb).mono ?_
  rintro e w1 ⟨g, cap, hcap, rfl, hrow, hgs, hfr⟩
  have hrn := hrow n hcap
  have hcl : ∀ ty, (Builtin.clear_ #[22] ty #[.slice (some ⟨g, 0, none⟩) n cap]).run Try.prog w1 = .ok (.tuple #[]) (w1.setCells g 0 (List.replicate n (.int .i64 0))) :=
    fun ty => Lib.run_clear_slice w1 22 3 ty (.int .i64 0) Try.underlying22 zero3 rfl rfl _ 0 n cap h0 (fun j hj => by rw [Nat.zero_add, hrn.cell j hj]; rfl) (fun j hj => hrn.frozen _)
  have R : Hid (Row (w1.setCells g 0 (List.replicate n (.int .i64 0))) (.slice (some ⟨g, 0, none⟩) n cap) n (List.replicate n 0)) := row_clear n 0 w1 hrn
  have R2 : Hid (Fr (· < w.heap.size) w (w1.setCells g 0 (List.replicate n (.int .i64 0)))) := fr_setCells _ (by omega) _ _ _ hfr
  clear hrow hrn hfr
  go_wp2
  go_ret
  exact ⟨g, cap, rfl, R.out, hgs, R2.out⟩

/-- zeroed, of no memory: n zeros of its own -/
theorem zeroed_nil (n : Nat) (w : World) (hb : n ≤ 1048576) :
    Calls Try.prog 29 #[.slice none 0 0, .int .i64 n] w fun e w' => ∃ v, e = .returned v ∧ Row w' v n (List.replicate n 0) ∧ Fr (· < w.heap.size) w w' ∧ (∀ g, v.ownBlock = some g → w.heap.size ≤ g) := by
  by_cases h0 : n = 0
  · subst h0
    refine (zeroed_zero w).mono ?_
    rintro e w' ⟨rfl, rfl⟩
    exact ⟨_, rfl, World.ownsRow_nil _ _ _ _, Fr.refl _ _, by simp [Value.ownBlock]⟩
  · refine (zeroed_pos n w (by omega) hb).mono ?_
    rintro e w' ⟨g, cap, rfl, h1, h2, h3⟩
    exact ⟨_, rfl, h1, h3, by simpa [Value.ownBlock] using h2⟩

/-- the same, the number as the walk has it -/
theorem zeroed_posI (N : Int) (n : Nat) (w : World) (hN : N = (n : Int)) (h0 : 0 < n) (hb : n ≤ 1048576) :
    Calls Try.prog 29 #[.slice none 0 0, .int .i64 N] w fun e w' => ∃ g cap, e = .returned (.slice (some ⟨g, 0, none⟩) n cap) ∧
      Row w' (.slice (some ⟨g, 0, none⟩) n cap) n (List.replicate n 0) ∧ w.heap.size ≤ g ∧ Fr (· < w.heap.size) w w' := by
  subst hN
  exact zeroed_pos n w h0 hb

/-- zeroed, of whatever number; the value's form -/
theorem zeroed_anyI (N : Int) (n : Nat) (w : World) (hN : N = (n : Int)) (hb : n ≤ 1048576) :
    Calls Try.prog 29 #[.slice none 0 0, .int .i64 N] w fun e w' => ∃ a cap, e = .returned (.slice a n cap) ∧
      Row w' (.slice a n cap) n (List.replicate n 0) ∧ (∀ g, (Value.slice a n cap).ownBlock = some g → w.heap.size ≤ g) ∧ Fr (· < w.heap.size) w w' := by
  subst hN
  by_cases h0 : n = 0
  · subst h0
    refine (zeroed_zero w).mono ?_
    rintro e w' ⟨rfl, rfl⟩
    exact ⟨_, _, rfl, World.ownsRow_nil _ _ _ _, by simp [Value.ownBlock], Fr.refl _ _⟩
  · refine (zeroed_pos n w (by omega) hb).mono ?_
    rintro e w' ⟨g, cap, rfl, h1, h2, h3⟩
    exact ⟨_, _, rfl, h1, by simpa [Value.ownBlock] using h2, h3⟩

end Go.Proofs.Qxb6003672a

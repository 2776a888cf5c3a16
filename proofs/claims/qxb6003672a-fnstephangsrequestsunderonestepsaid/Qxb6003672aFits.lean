import Derived.Test.Qxb6003672aReqLaw
namespace Go.Proofs.Qxb6003672a
open Go.RowKit
set_option linter.unusedVariables false

theorem bytes7 (n : Int) (a1 : Option Addr) (l1 c1 : Nat) (a2 : Option Addr) (l2 c2 : Nat) (w : World) (h1 : l1 ≤ 9223372036854775807) (h2 : l2 ≤ 9223372036854775807) :
    Calls Try.prog 7 #[.int .i64 n, .slice a1 l1 c1, .slice a2 l2 c2] w fun e w' => (∃ b, e = .returned (.bool b)) ∧ w = w' := by
  go_enter Try.func7, Try.ntmps7
  go_wp2
  all_goals (go_ret; exact ⟨⟨_, rfl⟩, rfl⟩)

/-- it returns a bool, and where that is true P holds -/
def RB (P : Prop) (e : Ending) : Prop := ∃ r : Bool, e = .returned (.bool r) ∧ (r = true → P)
theorem RB.no {P : Prop} {e : Ending} (h : e = .returned (.bool false)) : RB P e := ⟨false, h, fun e => by cases e⟩

set_option maxHeartbeats 400000 in
theorem inRange_any (a : Option Addr) (len cap : Nat) (z : Nat → Int) (lo hi : Int) (w : World) (hl : len ≤ 1048576) (hc : ∀ j, j < len → ∃ x, a = some x ∧ w.cell? (x.add j) = some (.int .i64 (z j))) :
    Calls Try.prog 28 #[.slice a len cap, .int .i64 lo, .int .i64 hi] w fun e w' => RB (∀ j, j < len → lo ≤ z j ∧ z j < hi) e ∧ w = w' := by
  go_enter Try.func28, Try.ntmps28
  go_wp2
  go_loop [7] (fun v => ∃ k : Nat, k ≤ len ∧ v = .int .i64 k ∧ ∀ j, j < k → lo ≤ z j ∧ z j < hi) (fun v => len - (intOf v).toNat)
  case atStart => exact ⟨0, Nat.zero_le _, rfl, fun j hj => by omega⟩
  case round =>
    obtain ⟨k, hk, rfl, hp⟩ := hrel
    have HP := Hid.mk' hp
    clear hp
    by_cases hlt : k < len
    · obtain ⟨x, rfl, hx⟩ := hc k hlt
      clear hc
      generalize hz : z k = zk at *
      have HZ := Hid.mk' hz
      clear hz
      by_cases c1 : zk < lo
      · go_wp2
        go_ret
        exact ⟨RB.no rfl, rfl⟩
      by_cases c2 : hi ≤ zk
      · go_wp2
        go_ret
        exact ⟨RB.no rfl, rfl⟩
      go_wp2
      go_round
      case rel =>
        refine ⟨k + 1, by omega, by go_num, fun j hj => ?_⟩
        by_cases e : j = k
        · subst e; rw [HZ.out]; omega
        · exact HP.out j (by omega)
      case measure => simp [intOf]; omega
    · have e : k = len := by omega
      subst e
      go_wp2
      go_ret
      exact ⟨⟨true, rfl, fun _ => HP.out⟩, rfl⟩

set_option maxRecDepth 100000 in
set_option maxHeartbeats 1000000 in
theorem fitsWaits_any (n : Int) (a1 : Option Addr) (l1 c1 : Nat) (z1 : List Int) (a2 : Option Addr) (l2 c2 : Nat) (z2 : List Int) (w : World) (w1 : IsRow .i64 w a1 l1 c1 z1) (w2 : IsRow .i64 w a2 l2 c2 z2) (h1 : l1 ≤ 4096) (h2 : l2 ≤ 4096) :
    Calls Try.prog 8 #[.int .i64 n, .slice a1 l1 c1, .slice a2 l2 c2] w fun e w' => RB (l1 = l2 ∧ 0 ≤ n ∧ n ≤ 1024 ∧ (∀ j, j < l1 → 0 ≤ (z1.take l1).getD j 0 ∧ (z1.take l1).getD j 0 < n) ∧ (∀ j, j < l2 → 0 ≤ (z2.take l2).getD j 0 ∧ (z2.take l2).getD j 0 < n)) e ∧ w = w' := by
  have g1 := w1.get
  have g2 := w2.get
  clear w1 w2
  by_cases e1 : l1 = l2
  · subst e1
    by_cases c1 : n < 0
    · go_enter Try.func8, Try.ntmps8
      go_wp2
      go_ret
      exact ⟨RB.no rfl, rfl⟩
    by_cases c2 : 1024 < n
    · go_enter Try.func8, Try.ntmps8
      go_wp2
      go_ret
      exact ⟨RB.no rfl, rfl⟩
    go_enter Try.func8, Try.ntmps8
    go_wp2_with fail
    refine (inRange_any a1 l1 _ (fun j => (z1.take l1).getD j 0) 0 n w (by omega) g1).mono ?_
    rintro e w' ⟨⟨r1, rfl, hr1⟩, rfl⟩
    cases r1
    · go_wp2
      go_ret
      exact ⟨RB.no rfl, rfl⟩
    · have HR1 := Hid.mk' (hr1 rfl)
      clear hr1
      go_wp2_with fail
      refine (inRange_any a2 l1 _ (fun j => (z2.take l1).getD j 0) 0 n w (by omega) g2).mono ?_
      rintro e w' ⟨⟨r2, rfl, hr2⟩, rfl⟩
      have HR2 := Hid.mk' hr2
      clear hr2
      go_wp2
      go_ret
      exact ⟨⟨r2, rfl, fun e => ⟨by trivial, by omega, by omega, HR1.out, HR2.out e⟩⟩, rfl⟩
  · have e1' : ((l1 : Int) != (l2 : Int)) = true := by rw [bne_iff_ne]; omega
    go_enter Try.func8, Try.ntmps8
    go_wp2
    go_ret
    exact ⟨RB.no rfl, rfl⟩

end Go.Proofs.Qxb6003672a

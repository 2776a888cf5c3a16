import Derived.Test.Qxb6003672aFits
import Derived.Test.Qxb6003672aGrPlain
import Derived.Deep.QuietTactic
import Derived.BigQuiet
import Derived.Deep.DeepCutAuto
import Derived.Deep.CutBlock
namespace Go.Proofs.Qxb6003672a
open Go.RowKit
set_option linter.unusedVariables false

/-- rows that can be read -/
def Rws (w : World) (a : Option Addr) (k : Nat) (rs : Nat → List Int) : Prop :=
  ∀ i, i < k → ∃ x ai ci, a = some x ∧ w.cell? (x.add i) = some (.slice ai (rs i).length ci) ∧ ∀ j, j < (rs i).length → ∃ y, ai = some y ∧ w.cell? (y.add j) = some (.int .i64 ((rs i).getD j 0))
/-- rows that came in -/
def RwsI (w : World) (a : Option Addr) (k : Nat) (rs : Nat → List Int) : Prop :=
  ∀ i, i < k → ∃ x ai ci zs, a = some x ∧ w.cell? (x.add i) = some (.slice ai (rs i).length ci) ∧ IsRow .i64 w ai (rs i).length ci zs ∧ zs.take (rs i).length = rs i
theorem RwsI.rws {w : World} {a : Option Addr} {k : Nat} {rs : Nat → List Int} (h : RwsI w a k rs) : Rws w a k rs := by
  intro i hi
  obtain ⟨x, ai, ci, zs, e, hc, hr, ht⟩ := h i hi
  refine ⟨x, ai, ci, e, hc, fun j hj => ?_⟩
  obtain ⟨y, ey, hy⟩ := hr.get j hj
  rw [ht] at hy
  exact ⟨y, ey, hy⟩
theorem RwsI.fr {F : Nat → Prop} {w w' : World} {a : Option Addr} {k : Nat} {rs : Nat → List Int} (h : RwsI w a k rs) (hf : Fr F w w') (hF : ∀ k, k < w.heap.size → F k) : RwsI w' a k rs := by
  intro i hi
  obtain ⟨x, ai, ci, zs, e, hc, hr, ht⟩ := h i hi
  exact ⟨x, ai, ci, zs, e, (hf.cell (p := x.add i) (hF _ (World.block_lt_of_cell? _ _ hc))).trans hc, hr.fr hf hF, ht⟩
theorem Rws.fr {F : Nat → Prop} {w w' : World} {a : Option Addr} {k : Nat} {rs : Nat → List Int} (h : Rws w a k rs) (hf : Fr F w w') (hF : ∀ k, k < w.heap.size → F k) : Rws w' a k rs := by
  intro i hi
  obtain ⟨x, ai, ci, e, hc, hr⟩ := h i hi
  refine ⟨x, ai, ci, e, (hf.cell (p := x.add i) (hF _ (World.block_lt_of_cell? _ _ hc))).trans hc, fun j hj => ?_⟩
  obtain ⟨y, ey, hy⟩ := hr j hj
  exact ⟨y, ey, (hf.cell (p := y.add j) (hF _ (World.block_lt_of_cell? _ _ hy))).trans hy⟩
theorem IsRow.len {k : IntKind} {w : World} {a : Option Addr} {len cap : Nat} {zs : List Int} (h : IsRow k w a len cap zs) : len ≤ maxLen := by
  rcases h with ⟨e1, e2, e3, _⟩ | ⟨x, e, hl, hm, _⟩
  · omega
  · omega

/-- it returns a bool -/
def IsB (e : Ending) : Prop := ∃ r : Bool, e = .returned (.bool r)
/-- it returns a number -/
def IsN (e : Ending) : Prop := ∃ r : Int, e = .returned (.int .i64 r)

set_option maxHeartbeats 400000 in
theorem bytes22 (n v s : Int) (a : Option Addr) (k c : Nat) (rs : Nat → List Int) (w : World) (hk : k ≤ maxLen) (hl : ∀ i, i < k → (rs i).length ≤ maxLen) (h : Rws w a k rs) :
    Calls Try.prog 22 #[.int .i64 n, .int .i64 v, .int .i64 s, .slice a k c] w fun e w' => IsB e ∧ w = w' := by
  unfold maxLen at hk hl
  by_cases c1 : 1048576 < k
  · go_enter Try.func22, Try.ntmps22
    go_wp2
    go_ret
    exact ⟨⟨_, rfl⟩, rfl⟩
  go_enter Try.func22, Try.ntmps22
  go_wp2
  go_loop [9, 10] (fun s v => ∃ j t : Nat, j ≤ k ∧ v = .int .i64 j ∧ s = .int .i64 t ∧ t ≤ 1048576) (fun _ v => k - (intOf v).toNat)
  case atStart => exact ⟨0, k, Nat.zero_le _, rfl, rfl, by omega⟩
  case round =>
    obtain ⟨j, t, hj, rfl, rfl, ht⟩ := hrel
    by_cases hlt : j < k
    · obtain ⟨x, ai, ci, rfl, hc, _⟩ := h j hlt
      have hl1 := hl j hlt
      clear h hl
      generalize (rs j).length = L at *
      by_cases c2 : 1048576 < L
      · go_wp2
        go_ret
        exact ⟨⟨_, rfl⟩, rfl⟩
      by_cases c3 : 1048576 < t + L
      · go_wp2
        go_ret
        exact ⟨⟨_, rfl⟩, rfl⟩
      go_wp2
      go_round
      case rel => exact ⟨j + 1, t + L, by omega, by go_num, by go_num, by omega⟩
      case measure => simp [intOf]; omega
    · have e : j = k := by omega
      subst e
      go_wp2
      go_ret
      exact ⟨⟨_, rfl⟩, rfl⟩

set_option maxHeartbeats 400000 in
theorem words_any (a : Option Addr) (k c : Nat) (rs : Nat → List Int) (w : World) (hk : k ≤ maxLen) (hl : ∀ i, i < k → (rs i).length ≤ maxLen) (h : Rws w a k rs) :
    Calls Try.prog 15 #[.slice none 0 0, .slice none 0 0, .slice a k c, .int .i64 65536] w fun e w' => IsN e ∧ w = w' := by
  unfold maxLen at hk hl
  by_cases c1 : 65536 < k
  · go_enter Try.func15, Try.ntmps15
    go_wp2
    go_ret
    exact ⟨⟨_, rfl⟩, rfl⟩
  go_enter Try.func15, Try.ntmps15
  go_wp2
  go_loop [9, 10] (fun s v => ∃ j t : Nat, j ≤ k ∧ v = .int .i64 j ∧ s = .int .i64 t ∧ t ≤ 1048576) (fun _ v => k - (intOf v).toNat)
  case atStart => exact ⟨0, 3 * k, Nat.zero_le _, rfl, by go_num, by omega⟩
  case round =>
    obtain ⟨j, t, hj, rfl, rfl, ht⟩ := hrel
    by_cases hlt : j < k
    · by_cases c0 : 65536 < t
      · go_wp2
        go_ret
        exact ⟨⟨_, rfl⟩, rfl⟩
      obtain ⟨x, ai, ci, rfl, hc, _⟩ := h j hlt
      have hl1 := hl j hlt
      clear h hl
      generalize (rs j).length = L at *
      by_cases c2 : 65536 < L
      · go_wp2
        go_ret
        exact ⟨⟨_, rfl⟩, rfl⟩
      go_wp2
      go_round
      case rel => exact ⟨j + 1, t + L, by omega, by go_num, by go_num, by omega⟩
      case measure => simp [intOf]; omega
    · have e : j = k := by omega
      subst e
      go_wp2
      all_goals (go_ret; exact ⟨⟨_, rfl⟩, rfl⟩)

set_option maxHeartbeats 400000 in
theorem short_any (a : Option Addr) (k c : Nat) (rs : Nat → List Int) (w : World) (hk : k ≤ maxLen) (hl : ∀ i, i < k → (rs i).length ≤ maxLen) (h : Rws w a k rs) :
    Calls Try.prog 16 #[.slice a k c] w fun e w' => RB (k ≤ 128 ∧ ∀ i, i < k → (rs i).length ≤ 128) e ∧ w = w' := by
  unfold maxLen at hk hl
  by_cases c1 : 128 < k
  · go_enter Try.func16, Try.ntmps16
    go_wp2
    go_ret
    exact ⟨RB.no rfl, rfl⟩
  go_enter Try.func16, Try.ntmps16
  go_wp2
  go_loop [3] (fun v => ∃ j : Nat, j ≤ k ∧ v = .int .i64 j ∧ Hid (∀ i, i < j → (rs i).length ≤ 128)) (fun v => k - (intOf v).toNat)
  case atStart => exact ⟨0, Nat.zero_le _, rfl, fun i hi => by omega⟩
  case round =>
    obtain ⟨j, hj, rfl, HP⟩ := hrel
    by_cases hlt : j < k
    · obtain ⟨x, ai, ci, rfl, hc, _⟩ := h j hlt
      have hl1 := hl j hlt
      clear h hl
      generalize hL : (rs j).length = L at *
      have HL := Hid.mk' hL
      clear hL
      by_cases c2 : 128 < L
      · go_wp2
        go_ret
        exact ⟨RB.no rfl, rfl⟩
      go_wp2
      go_round
      case rel =>
        refine ⟨j + 1, by omega, by go_num, fun i hi => ?_⟩
        by_cases e : i = j
        · subst e; rw [HL.out]; omega
        · exact HP.out i (by omega)
      case measure => simp [intOf]; omega
    · have e : j = k := by omega
      subst e
      go_wp2
      go_ret
      exact ⟨⟨true, rfl, fun _ => ⟨by omega, HP.out⟩⟩, rfl⟩

set_option maxHeartbeats 400000 in
theorem fits_any (n : Int) (a : Option Addr) (k c : Nat) (rs : Nat → List Int) (w : World) (hk : k ≤ maxLen) (hl : ∀ i, i < k → (rs i).length ≤ maxLen) (h : Rws w a k rs) :
    Calls Try.prog 23 #[.int .i64 n, .slice a k c] w fun e w' => RB (∀ i, i < k → ∀ j, j < (rs i).length → 0 ≤ (rs i).getD j 0 ∧ (rs i).getD j 0 < n) e ∧ w = w' := by
  go_enter Try.func23, Try.ntmps23
  go_wp2_with fail
  refine (short_any a k c rs w hk hl h).mono ?_
  rintro e w' ⟨⟨r, rfl, hr⟩, rfl⟩
  unfold maxLen at hk hl
  cases r
  · clear hr
    go_wp2
    go_ret
    exact ⟨RB.no rfl, rfl⟩
  obtain ⟨hk1, hr⟩ := hr rfl
  have HR := Hid.mk' hr
  clear hr
  go_wp2
  go_loop [5] (fun v => ∃ t : Nat, t ≤ k ∧ v = .int .i64 t ∧ Hid (∀ i, i < t → ∀ j, j < (rs i).length → 0 ≤ (rs i).getD j 0 ∧ (rs i).getD j 0 < n)) (fun v => k - (intOf v).toNat)
  case atStart => exact ⟨0, Nat.zero_le _, rfl, fun i hi => by omega⟩
  case round =>
    obtain ⟨t, ht, rfl, HP⟩ := hrel
    by_cases hlt : t < k
    · obtain ⟨x, ai, ci, rfl, hc, hrow⟩ := h t hlt
      have hl1 := HR.out t hlt
      clear h hl
      have HRow := Hid.mk' hrow
      clear hrow
      generalize hL : (rs t).length = L at *
      have HL := Hid.mk' hL
      clear hL
      go_wp2_with fail
      refine (inRange_any ai L ci (fun j => (rs t).getD j 0) 0 n w (by omega) HRow.out).mono ?_
      rintro e w' ⟨⟨r, rfl, hr⟩, rfl⟩
      cases r
      · clear hr
        go_wp2
        go_ret
        exact ⟨RB.no rfl, rfl⟩
      have HQ := Hid.mk' (hr rfl)
      clear hr
      go_wp2
      go_round
      case rel =>
        refine ⟨t + 1, by omega, by go_num, fun i hi j hj => ?_⟩
        by_cases e : i = t
        · subst e; rw [HL.out] at hj; exact HQ.out j hj
        · exact HP.out i (by omega) j hj
      case measure => simp [intOf]; omega
    · have e : t = k := by omega
      subst e
      go_wp2
      go_ret
      exact ⟨⟨true, rfl, fun _ => HP.out⟩, rfl⟩

/-- sameInts on equal rows -/
theorem same_any (a1 : Option Addr) (n c1 : Nat) (a2 : Option Addr) (c2 : Nat) (z : Nat → Int) (w : World) (hn : n ≤ 1048576) (h1 : ∀ j, j < n → ∃ x, a1 = some x ∧ w.cell? (x.add j) = some (.int .i64 (z j))) (h2 : ∀ j, j < n → ∃ x, a2 = some x ∧ w.cell? (x.add j) = some (.int .i64 (z j))) :
    Calls Try.prog 21 #[.slice a1 n c1, .slice a2 n c2] w fun e w' => e = .returned (.bool true) ∧ ∃ q, w.drewN q = w' := by
  go_enter Try.func21, Try.ntmps21
  go_wp2
  go_loopw [5] (fun i wr => ∃ k q : Nat, k ≤ n ∧ i = .int .i64 k ∧ w.drewN q = wr) (fun i _ => n - (intOf i).toNat)
  case atStart => exact ⟨0, 0, Nat.zero_le _, rfl, rfl⟩
  case round =>
    obtain ⟨k, q, hk, rfl, rfl⟩ := hrel
    by_cases hlt : k < n
    · obtain ⟨p1, rfl, e1⟩ := h1 k hlt
      obtain ⟨p2, rfl, e2⟩ := h2 k hlt
      have f1 : ∀ m, (w.drewN m).cell? (p1.add k) = some (.int .i64 (z k)) := fun m => by rw [World.cell?_drewN]; exact e1
      have f2 : ∀ m, (w.drewN m).cell? (p2.add k) = some (.int .i64 (z k)) := fun m => by rw [World.cell?_drewN]; exact e2
      clear h1 h2 e1 e2
      generalize z k = zk at *
      go_wp2
      go_quiet (fail)
      go_wp2
      go_roundw
      case rel => exact ⟨k + 1, _, by omega, by go_num, rfl⟩
      case measure => simp [intOf]; omega
    · have e : k = n := by omega
      subst e
      go_wp2
      go_ret
      exact ⟨rfl, _, rfl⟩

end Go.Proofs.Qxb6003672a

import Derived.Test.Qxb6003683aLeaf
import Derived.Deep.DeepCutAuto
import Derived.Deep.CutBlock
namespace Go.Proofs.Qxb6003683a
open Go.RowKit
set_option linter.unusedVariables false

/-- a blank -/
def bl (c : Int) : Bool := decide (c = 32 ∨ c = 9)
theorem bl_yes {c : Int} (h : c = 32 ∨ c = 9) : bl c = true := by simp [bl, h]
theorem bl_no {c : Int} (h1 : ¬ c = 32) (h2 : ¬ c = 9) : bl c = false := by simp [bl, h1, h2]

theorem isblank (c : Int) (w : World) : Calls Try.prog 28 #[.int .u8 c] w fun e w' => e = .returned (.bool (bl c)) ∧ w = w' := by
  by_cases h1 : c = 32
  · rw [bl_yes (.inl h1)]
    have c1 : (c == 32) = true := by simp [h1]
    clear h1
    go_enter Try.func28, Try.ntmps28
    go_wp2
    go_ret
    exact ⟨rfl, rfl⟩
  by_cases h2 : c = 9
  · rw [bl_yes (.inr h2)]
    have c1 : (c == 32) = false := by simp [h1]
    have c2 : (c == 9) = true := by simp [h2]
    clear h1 h2
    go_enter Try.func28, Try.ntmps28
    go_wp2
    go_ret
    exact ⟨rfl, rfl⟩
  rw [bl_no h1 h2]
  have c1 : (c == 32) = false := by simp [h1]
  have c2 : (c == 9) = false := by simp [h2]
  clear h1 h2
  go_enter Try.func28, Try.ntmps28
  go_wp2
  go_ret
  exact ⟨rfl, rfl⟩

theorem zzblank (c : Int) (w : World) : Calls Try.prog 10 #[.int .u8 c] w fun e w' => e = .returned (.bool (bl c)) ∧ w = w' := by
  by_cases h1 : c = 32
  · rw [bl_yes (.inl h1)]
    have c1 : (c == 32) = true := by simp [h1]
    clear h1
    go_enter Try.func10, Try.ntmps10
    go_wp2
    go_ret
    exact ⟨rfl, rfl⟩
  by_cases h2 : c = 9
  · rw [bl_yes (.inr h2)]
    have c1 : (c == 32) = false := by simp [h1]
    have c2 : (c == 9) = true := by simp [h2]
    clear h1 h2
    go_enter Try.func10, Try.ntmps10
    go_wp2
    go_ret
    exact ⟨rfl, rfl⟩
  rw [bl_no h1 h2]
  have c1 : (c == 32) = false := by simp [h1]
  have c2 : (c == 9) = false := by simp [h2]
  clear h1 h2
  go_enter Try.func10, Try.ntmps10
  go_wp2
  go_ret
  exact ⟨rfl, rfl⟩

/-- r is the first blank at or behind i, or the end -/
def FE (z : Nat → Int) (len i r : Nat) : Prop := i ≤ r ∧ r ≤ len ∧ (∀ p, i ≤ p → p < r → bl (z p) = false) ∧ (r < len → bl (z r) = true)
theorem FE.again {z : Nat → Int} {len i r r' : Nat} (h : FE z len i r) (h' : FE z len r r') : r' = r := by
  obtain ⟨h1, h2, h3, h4⟩ := h
  obtain ⟨g1, g2, g3, g4⟩ := h'
  rcases Nat.lt_or_ge r len with hl | hl
  · rcases Nat.lt_or_ge r r' with a | a
    · have e1 := g3 r (Nat.le_refl _) a
      have e2 := h4 hl
      rw [e1] at e2; cases e2
    · omega
  · omega
theorem FE.mono {z : Nat → Int} {len i j r s : Nat} (h : FE z len i r) (h' : FE z len j s) (hij : i ≤ j) : r ≤ s := by
  obtain ⟨h1, h2, h3, h4⟩ := h
  obtain ⟨g1, g2, g3, g4⟩ := h'
  rcases Nat.lt_or_ge s r with a | a
  · have e1 := h3 s (by omega) a
    have e2 := g4 (by omega)
    rw [e1] at e2; cases e2
  · exact a

/-- the cells of a slice of bytes -/
def Byt (w : World) (a : Option Addr) (len : Nat) (z : Nat → Int) : Prop := ∀ j, j < len → ∃ x, a = some x ∧ w.cell? (x.add j) = some (.int .u8 (z j))

set_option maxHeartbeats 400000 in
theorem fieldEnd_any (a : Option Addr) (len cap i : Nat) (z : Nat → Int) (w : World) (hi : i ≤ len) (hl : len ≤ 1048576) (hc : Byt w a len z) :
    Calls Try.prog 24 #[.slice a len cap, .int .i64 i] w fun e w' => ∃ r : Nat, e = .returned (.int .i64 r) ∧ FE z len i r ∧ w = w' := by
  go_enter Try.func24, Try.ntmps24
  go_wp2
  go_loop [1] (fun v => ∃ k : Nat, i ≤ k ∧ k ≤ len ∧ v = .int .i64 k ∧ ∀ p, i ≤ p → p < k → bl (z p) = false) (fun v => len - (intOf v).toNat)
  case atStart => exact ⟨i, Nat.le_refl _, hi, rfl, fun p h1 h2 => by omega⟩
  case round =>
    obtain ⟨k, hk1, hk2, rfl, hp⟩ := hrel
    have HP := Hid.mk hp
    clear hp
    by_cases hlt : k < len
    · obtain ⟨x, rfl, hx⟩ := hc k hlt
      clear hc
      cases hb : bl (z k)
      · have HB := Hid.mk hb
        clear hb
        generalize hz : z k = zk at *
        have HZ := Hid.mk hz
        clear hz
        have hI : bl zk = false := HB.out
        go_wp2_with (go_at_call 28; refine (isblank _ _).mono ?_; rintro e w' ⟨rfl, rfl⟩)
        go_round
        case rel =>
          refine ⟨k + 1, by omega, by omega, by go_num, fun p h1 h2 => ?_⟩
          by_cases e : p = k
          · subst e; rw [HZ.out]; exact HB.out
          · exact HP.out p h1 (by omega)
        case measure => simp [intOf]; omega
      · have HB := Hid.mk hb
        clear hb
        generalize hz : z k = zk at *
        have HZ := Hid.mk hz
        clear hz
        have hI : bl zk = true := HB.out
        go_wp2_with (go_at_call 28; refine (isblank _ _).mono ?_; rintro e w' ⟨rfl, rfl⟩)
        go_ret
        exact ⟨k, rfl, ⟨hk1, by omega, HP.out, fun _ => by rw [HZ.out]; exact HB.out⟩, rfl⟩
    · have e : k = len := by omega
      subst e
      go_wp2
      go_ret
      exact ⟨k, rfl, ⟨hk1, by omega, HP.out, fun h => by omega⟩, rfl⟩

theorem zzFieldEnd_any (a : Option Addr) (len cap i : Nat) (z : Nat → Int) (w : World) (hi : i ≤ len) (hl : len ≤ 1048576) (hc : Byt w a len z) :
    Calls Try.prog 9 #[.slice a len cap, .int .i64 i] w fun e w' => ∃ r : Nat, e = .returned (.int .i64 r) ∧ FE z len i r ∧ w = w' := by
  go_enter Try.func9, Try.ntmps9
  go_wp2_with fail
  refine (fieldEnd_any a len cap i z w hi hl hc).mono ?_
  rintro e w' ⟨r, rfl, h, rfl⟩
  go_wp2
  go_ret
  exact ⟨r, rfl, h, rfl⟩

/-- WHAT THE WALK IS TOLD OF A SLICE OF INTEGERS THAT CAME IN. -/
def IsRow (k : IntKind) (w : World) (a : Option Addr) (len cap : Nat) (zs : List Int) : Prop :=
  (a = none ∧ len = 0 ∧ cap = 0 ∧ zs = []) ∨
  ∃ x, a = some x ∧ len ≤ cap ∧ cap ≤ maxLen ∧ zs.length = cap ∧ (∀ i, i < zs.length → w.cell? (x.add i) = some (.int k (zs.getD i 0))) ∧ ∀ n ∈ zs, (Lit.int k n).wf = true

theorem clone_any {a : Option Addr} {len cap : Nat} {zs : List Int} {w : World} (h : IsRow .u8 w a len cap zs) (hb : len ≤ 1048576) :
    Calls Try.prog 8 #[.slice a len cap] w fun e w' => ∃ a' c', e = .returned (.slice a' len c') ∧ Byt w' a' len (fun j => (zs.take len).getD j 0) ∧ Fr (· < w.heap.size) w w' := by
  rcases h with ⟨rfl, rfl, rfl, rfl⟩ | ⟨x, rfl, hl, hm, hz, hc, _⟩
  · refine (clone_nil w).mono ?_
    rintro e w' ⟨rfl, rfl⟩
    exact ⟨_, _, rfl, fun j hj => by omega, Fr.refl _ _⟩
  · refine (clone_some x len cap zs w hl hm hz (by omega) hc).mono ?_
    rintro e w' ⟨rfl, h1, h2⟩
    refine ⟨_, _, rfl, fun j hj => ⟨_, rfl, ?_⟩, h2⟩
    rw [Addr.add_lit, Nat.zero_add, World.ownsRow.cellAt h1 j (by omega)]
    simp [List.getD, hj, show j < zs.length by omega]

set_option maxRecDepth 100000 in
set_option maxHeartbeats 1000000 in
theorem law3 (a : Option Addr) (len cap i j : Nat) (zs : List Int) (w : World) (h : IsRow .u8 w a len cap zs) (hl : len ≤ 1048576) (hij : i ≤ j) (hj : j ≤ len) :
    Calls Try.prog 3 #[.slice a len cap, .int .i64 i, .int .i64 j] w fun e w' => e = .returned (.bool true) ∧ Below w.heap.size w w' := by
  go_enter Try.func3, Try.ntmps3
  go_wp2_with fail
  refine (bytes7 _ _ _ _ _ _ (by omega)).mono ?_
  rintro e w' ⟨⟨bb, rfl⟩, rfl⟩
  cases bb
  · go_wp2
    go_ret
    exact ⟨rfl, Below.refl _ _⟩
  go_wp2_with fail
  refine (clone_any h hl).mono ?_
  rintro e w1 ⟨a', c', rfl, hb, hf⟩
  have FIN : Hid (Below w.heap.size w w1) := hf.below
  clear hf h
  generalize (fun j => (zs.take len).getD j 0) = z at *
  go_wp2_with fail
  refine (zzFieldEnd_any a' len c' i z w1 (by omega) hl hb).mono ?_
  rintro e w2 ⟨r, rfl, FI, rfl⟩
  go_wp2_with fail
  refine (zzFieldEnd_any a' len c' j z w1 (by omega) hl hb).mono ?_
  rintro e w2 ⟨s, rfl, FJ, rfl⟩
  have hm := FI.mono FJ hij
  have hr1 := FI.1
  have hr2 := FI.2.1
  have hs1 := FJ.1
  have hs2 := FJ.2.1
  have HI := Hid.mk FI
  clear FI FJ
  go_upto_region 12 with fail
  go_cut [7, 9] (fun s7 s9 wc => s7 = .int .i64 r ∧ s9 = .int .i64 i ∧ w1 = wc)
  case first =>
    go_wp2
    go_meet
    case rel => exact ⟨rfl, rfl, rfl⟩
  case rest =>
    obtain ⟨rfl, rfl, rfl⟩ := hcut
    go_upto_block 0 with fail
    go_cut [7] (fun s7 wc => s7 = .int .i64 r ∧ w1 = wc)
    case first =>
      go_wp2
      go_loop [9] (fun v => ∃ p : Nat, i ≤ p ∧ p ≤ r ∧ v = .int .i64 p) (fun v => r - (intOf v).toNat)
      case atStart => exact ⟨i, Nat.le_refl _, hr1, rfl⟩
      case round =>
        obtain ⟨p, hp1, hp2, rfl⟩ := hrel
        by_cases hlt : p < r
        · obtain ⟨x, rfl, hx⟩ := hb p (by omega)
          have hbl := HI.out.2.2.1 p hp1 hlt
          clear hb
          generalize z p = zp at *
          go_wp2_with (go_at_call 10; refine (zzblank _ _).mono ?_; rintro e w' ⟨rfl, rfl⟩)
          go_round
          case rel => exact ⟨p + 1, by omega, by omega, by go_num⟩
          case measure => simp [intOf]; omega
        · have e : p = r := by omega
          subst e
          go_wp2
          go_meet
          case rel => exact ⟨rfl, rfl⟩
    case rest =>
      obtain ⟨rfl, rfl⟩ := hcut
      by_cases hrl : r < len
      · obtain ⟨x, hax, hx⟩ := hb r hrl
        have hbl := HI.out.2.2.2 hrl
        subst hax
        have HBY := Hid.mk hb
        clear hb
        generalize z r = zp at *
        go_wp2_with (go_at_call 10; refine (zzblank _ _).mono ?_; rintro e w' ⟨rfl, rfl⟩)
        refine (zzFieldEnd_any _ len c' r z w1 (by omega) hl HBY.out).mono ?_
        rintro e w2 ⟨r', rfl, FR, rfl⟩
        obtain rfl := HI.out.again FR
        go_wp2
        go_ret
        exact ⟨rfl, FIN.out⟩
      · have HBY := Hid.mk hb
        clear hb
        go_wp2_with fail
        refine (zzFieldEnd_any _ len c' r z w1 (by omega) hl HBY.out).mono ?_
        rintro e w2 ⟨r', rfl, FR, rfl⟩
        obtain rfl := HI.out.again FR
        go_wp2
        go_ret
        exact ⟨rfl, FIN.out⟩

end Go.Proofs.Qxb6003683a

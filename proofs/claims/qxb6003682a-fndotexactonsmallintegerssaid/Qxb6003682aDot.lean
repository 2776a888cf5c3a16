import Derived.Test.Qxb6003682aLeaf
import Derived.Test.Qxb6003682aFloat
import Derived.WalkLawsBesides
import Derived.Deep.QuietTactic
import Derived.BigQuiet
import Derived.Deep.DeepCutAuto
import Derived.Deep.CutBlock
namespace Go.Proofs.Qxb6003682a
open Go.RowKit
set_option linter.unusedVariables false
attribute [local go_sem] run_store_float

def dsum (x y : Nat → Int) : Nat → Int
  | 0 => 0
  | k + 1 => dsum x y k + x k * y k
theorem prod_bd (a b : Int) (ha : -1048576 ≤ a ∧ a ≤ 1048576) (hb : -1048576 ≤ b ∧ b ≤ 1048576) : -1099511627776 ≤ a * b ∧ a * b ≤ 1099511627776 := by
  have h : (a * b).natAbs ≤ 1048576 * 1048576 := by
    rw [Int.natAbs_mul]
    exact Nat.mul_le_mul (by omega) (by omega)
  omega
theorem dsum_bd (x y : Nat → Int) (hx : ∀ i, -1048576 ≤ x i ∧ x i ≤ 1048576) (hy : ∀ i, -1048576 ≤ y i ∧ y i ≤ 1048576) : ∀ k : Nat, -1099511627776 * (k : Int) ≤ dsum x y k ∧ dsum x y k ≤ 1099511627776 * (k : Int)
  | 0 => by simp [dsum]
  | k + 1 => by
    have h := dsum_bd x y hx hy k
    have p := prod_bd (x k) (y k) (hx k) (hy k)
    unfold dsum
    omega
theorem dsum_comm (x y : Nat → Int) : ∀ k, dsum x y k = dsum y x k
  | 0 => rfl
  | k + 1 => by unfold dsum; rw [dsum_comm x y k, Int.mul_comm]

theorem isI_zero : IsI 0 0 := isI_ofInt 0 (by decide)

set_option maxHeartbeats 400000 in
/-- dot, on whole numbers -/
theorem dot_any (a1 : Option Addr) (n c1 : Nat) (a2 : Option Addr) (c2 : Nat) (X Y : Nat → Nat) (x y : Nat → Int) (w : World) (hn : n ≤ 4096) (h1 : Cel w a1 n c1 (fun i => .float .f64 (X i))) (h2 : Cel w a2 n c2 (fun i => .float .f64 (Y i)))
    (hX : ∀ i, i < n → IsI (X i) (x i)) (hY : ∀ i, i < n → IsI (Y i) (y i)) (bx : ∀ i, -1048576 ≤ x i ∧ x i ≤ 1048576) (by' : ∀ i, -1048576 ≤ y i ∧ y i ≤ 1048576) :
    Calls Try.prog 25 #[.slice a1 n c1, .slice a2 n c2] w fun e w' => ∃ r, e = .returned (.float .f64 r) ∧ IsI r (dsum x y n) ∧ w = w' := by
  have g1 := h1.get
  have g2 := h2.get
  clear h1 h2
  go_enter Try.func25, Try.ntmps25
  go_wp2
  go_loop [5, 10] (fun s i => ∃ (k r : Nat), k ≤ n ∧ i = .int .i64 k ∧ s = .float .f64 r ∧ Hid (IsI r (dsum x y k))) (fun _ i => n - (intOf i).toNat)
  case atStart => exact ⟨0, 0, Nat.zero_le _, rfl, rfl, isI_zero⟩
  case round =>
    obtain ⟨k, r, hk, rfl, rfl, HI⟩ := hrel
    by_cases hlt : k < n
    · obtain ⟨p1, rfl, e1⟩ := g1 k hlt
      obtain ⟨p2, rfl, e2⟩ := g2 k hlt
      have b1 := prod_bd (x k) (y k) (bx k) (by' k)
      have b2 := dsum_bd x y bx by' k
      obtain ⟨m, hm, Im⟩ := isI_mul (hX k hlt) (hY k hlt) (by have : (2 : Nat) ^ 53 = 9007199254740992 := by decide
                                                              omega)
      obtain ⟨s, hs, Is⟩ := isI_add HI.out Im (by have : (2 : Nat) ^ 53 = 9007199254740992 := by decide
                                                  omega)
      have q1 := fun w => run_float_arith (P := Try.prog) w .mul 41 .f64 (X k) (Y k) m hm
      have q2 := fun w => run_float_arith (P := Try.prog) w .add 41 .f64 r m s hs
      have HS : Hid (IsI s (dsum x y (k + 1))) := Is
      clear g1 g2 hX hY hm hs Im Is HI b1 b2 bx by'
      generalize X k = X0 at *
      generalize Y k = Y0 at *
      go_wp2
      go_round
      case rel => exact ⟨k + 1, s, by omega, by go_num, rfl, HS⟩
      case measure => simp [intOf]; omega
    · have e : k = n := by omega
      subst e
      go_wp2
      go_ret
      exact ⟨r, rfl, HI.out, rfl⟩

theorem zzdot_any (a1 : Option Addr) (n c1 : Nat) (a2 : Option Addr) (c2 : Nat) (X Y : Nat → Nat) (x y : Nat → Int) (w : World) (hn : n ≤ 4096) (h1 : Cel w a1 n c1 (fun i => .float .f64 (X i))) (h2 : Cel w a2 n c2 (fun i => .float .f64 (Y i)))
    (hX : ∀ i, i < n → IsI (X i) (x i)) (hY : ∀ i, i < n → IsI (Y i) (y i)) (bx : ∀ i, -1048576 ≤ x i ∧ x i ≤ 1048576) (by' : ∀ i, -1048576 ≤ y i ∧ y i ≤ 1048576) :
    Calls Try.prog 19 #[.slice a1 n c1, .slice a2 n c2] w fun e w' => ∃ r, e = .returned (.float .f64 r) ∧ IsI r (dsum x y n) ∧ w = w' := by
  go_enter Try.func19, Try.ntmps19
  go_wp2_with fail
  refine (dot_any a1 n c1 a2 c2 X Y x y w hn h1 h2 hX hY bx by').mono ?_
  rintro e w' ⟨r, rfl, h, rfl⟩
  have H := Hid.mk h
  clear h hX hY bx by' h1 h2
  go_wp2
  go_ret
  exact ⟨r, rfl, H.out, rfl⟩

theorem bytes17 (a1 : Option Addr) (l1 c1 : Nat) (a2 : Option Addr) (l2 c2 : Nat) (w : World) (h1 : l1 ≤ 9223372036854775807) (h2 : l2 ≤ 9223372036854775807) :
    Calls Try.prog 17 #[.slice a1 l1 c1, .slice a2 l2 c2] w fun e w' => (∃ b, e = .returned (.bool b)) ∧ w = w' := by
  go_enter Try.func17, Try.ntmps17
  go_wp2
  all_goals (go_ret; exact ⟨⟨_, rfl⟩, rfl⟩)

theorem Try.info41 : (Try.prog.info? 41).map (fun i => (i.zero, i.size, i.bytes)) = some (some (.float .f64 0), 1, 8) := by kernel_rfl

theorem made_own {w : World} {e : TypeId} {z : Value} {g n : Nat} (h : w.ownsRow 0 e 1 (.slice (some ⟨g, 0, none⟩) n n) n (madeCells #[z] n).toList) : Own w e (some ⟨g, 0, none⟩) n n (fun _ => z) := by
  unfold Own
  rw [toList_madeCells_one] at h
  have e1 : (List.range n).map (fun _ => z) = List.replicate n z := by
    apply List.ext_getElem <;> simp
  rw [e1]
  exact h

/-- what the float rows hold when k are laid -/
def fv (z : Nat → Int) (k : Nat) (i : Nat) : Value := if i < k then .float .f64 (floatOfInt .f64 (z i)) else .float .f64 0
theorem fv_set (z : Nat → Int) (n k : Nat) : ∀ i, i < n → fv z (k + 1) i = if i = k then .float .f64 (floatOfInt .f64 (z k)) else fv z k i := by
  intro i hi
  unfold fv
  by_cases e : i = k
  · subst e; rw [if_pos (by omega), if_pos rfl]
  · rw [if_neg e]
    by_cases h : i < k
    · rw [if_pos h, if_pos (by omega)]
    · rw [if_neg h, if_neg (by omega)]

theorem Own.drewN {w : World} {e : TypeId} {a : Option Addr} {len cap : Nat} {V : Nat → Value} (h : Own w e a len cap V) (n : Nat) : Own (w.drewN n) e a len cap V := own_keep h (fun k _ => by rw [World.heap_drewN])
theorem Fr.drewN {F : Nat → Prop} {a w : World} (h : Fr F a w) (n : Nat) : Fr F a (w.drewN n) := ⟨h.os, h.tape, h.output, h.size, h.block⟩

/-- clamped, so that a bound holds at every place -/
def cl (z : Nat → Int) (n : Nat) (i : Nat) : Int := if i < n then z i else 0

theorem wraps (D Z0 Z1 : Int) (k : Nat) (hk : k ≤ 4096) (b1 : -1099511627776 * (k : Int) ≤ D ∧ D ≤ 1099511627776 * (k : Int)) (b3 : -1099511627776 ≤ Z0 * Z1 ∧ Z0 * Z1 ≤ 1099511627776) (b4 : -1048576 ≤ Z0 ∧ Z0 ≤ 1048576) (b5 : -1048576 ≤ Z1 ∧ Z1 ≤ 1048576) :
    IntKind.i64.wrap Z0 = Z0 ∧ IntKind.i64.wrap Z1 = Z1 ∧ IntKind.i64.wrap (Z0 * Z1) = Z0 * Z1 ∧ IntKind.i64.wrap (D + Z0 * Z1) = D + Z0 * Z1 := by
  simp only [IntKind.wrap_i64]
  generalize Z0 * Z1 = p at *
  refine ⟨?_, ?_, ?_, ?_⟩ <;> omega

set_option maxRecDepth 100000 in
set_option maxHeartbeats 2000000 in
theorem law5 (a0 : Option Addr) (l0 cap0 : Nat) (z0 : Nat → Int) (a1 : Option Addr) (l1 cap1 : Nat) (z1 : Nat → Int) (w : World) (w0 : Cel w a0 l0 cap0 (fun i => .int .i32 (z0 i))) (w1 : Cel w a1 l1 cap1 (fun i => .int .i32 (z1 i))) (hm0 : l0 ≤ 4096) (hm1 : l1 ≤ 4096) :
    Calls Try.prog 5 #[.slice a0 l0 cap0, .slice a1 l1 cap1] w fun e w' => e = .returned (.bool true) ∧ Below w.heap.size w w' := by
  have g0 := w0.get
  have g1 := w1.get
  go_enter Try.func5, Try.ntmps5
  go_wp2_with fail
  refine (bytes17 _ _ _ _ _ _ _ (by omega) (by omega)).mono ?_
  rintro e w' ⟨⟨bb, rfl⟩, rfl⟩
  cases bb
  · go_wp2
    go_ret
    exact ⟨rfl, Below.refl _ _⟩
  go_upto_block 0 with fail
  go_cut [1] (fun s1 wc => s1 = .slice a1 l1 cap1 ∧ w = wc ∧ Hid (∀ j, j < l0 → -1048576 ≤ z0 j ∧ z0 j ≤ 1048576))
  case first =>
    go_wp2
    go_loop [5] (fun i => ∃ k : Nat, k ≤ l0 ∧ i = .int .i64 k ∧ Hid (∀ j, j < k → -1048576 ≤ z0 j ∧ z0 j ≤ 1048576)) (fun i => l0 - (intOf i).toNat)
    case atStart => exact ⟨0, Nat.zero_le _, rfl, fun j hj => by omega⟩
    case round =>
      obtain ⟨k, hk, rfl, HJ⟩ := hrel
      by_cases hlt : k < l0
      · obtain ⟨x, rfl, hc⟩ := g0 k hlt
        clear g0 g1
        generalize hz : z0 k = z at *
        have HZ := Hid.mk hz
        clear hz
        by_cases c1 : z < -1048576
        · go_wp2
          go_ret
          exact ⟨rfl, Below.refl _ _⟩
        by_cases c2 : 1048576 < z
        · go_wp2
          go_ret
          exact ⟨rfl, Below.refl _ _⟩
        go_wp2
        go_round
        case rel =>
          refine ⟨k + 1, by omega, by go_num, fun j hj => ?_⟩
          by_cases e : j = k
          · subst e; rw [HZ.out]; omega
          · exact HJ.out j (by omega)
        case measure => simp [intOf]; omega
      · have e : k = l0 := by omega
        subst e
        go_wp2
        go_meet
        case rel => exact ⟨rfl, rfl, HJ⟩
  case rest =>
    obtain ⟨rfl, rfl, B0⟩ := hcut
    clear g0
    go_upto_block 2 with fail
    go_cut [1] (fun s1 wc => s1 = .slice a1 l1 cap1 ∧ w = wc ∧ Hid (∀ j, j < l1 → -1048576 ≤ z1 j ∧ z1 j ≤ 1048576))
    case first =>
      go_wp2
      go_loop [6] (fun i => ∃ k : Nat, k ≤ l1 ∧ i = .int .i64 k ∧ Hid (∀ j, j < k → -1048576 ≤ z1 j ∧ z1 j ≤ 1048576)) (fun i => l1 - (intOf i).toNat)
      case atStart => exact ⟨0, Nat.zero_le _, rfl, fun j hj => by omega⟩
      case round =>
        obtain ⟨k, hk, rfl, HJ⟩ := hrel
        by_cases hlt : k < l1
        · obtain ⟨x, rfl, hc⟩ := g1 k hlt
          clear g1
          generalize hz : z1 k = z at *
          have HZ := Hid.mk hz
          clear hz
          by_cases c1 : z < -1048576
          · go_wp2
            go_ret
            exact ⟨rfl, Below.refl _ _⟩
          by_cases c2 : 1048576 < z
          · go_wp2
            go_ret
            exact ⟨rfl, Below.refl _ _⟩
          go_wp2
          go_round
          case rel =>
            refine ⟨k + 1, by omega, by go_num, fun j hj => ?_⟩
            by_cases e : j = k
            · subst e; rw [HZ.out]; omega
            · exact HJ.out j (by omega)
          case measure => simp [intOf]; omega
        · have e : k = l1 := by omega
          subst e
          go_wp2
          go_meet
          case rel => exact ⟨rfl, rfl, HJ⟩
    case rest =>
      obtain ⟨rfl, rfl, B1⟩ := hcut
      clear g1
      go_wp2_with fail
      refine (cloneI32_any w0 (by omega) (fun i => rfl)).mono ?_
      rintro e wA ⟨aU, cU, rfl, oU, nU, fA⟩
      have w1A := w1.fr fA (fun _ h => h)
      clear w1 w0
      go_wp2_with fail
      refine (cloneI32_any w1A (by omega) (fun i => rfl)).mono ?_
      rintro e wB ⟨aX, cX, rfl, oX, nX, fB⟩
      have oU2 := oU.frN fB
      have fAB : Fr (· < w.heap.size) w wB := fA.trans (fB.mono (fun k h => Nat.lt_of_lt_of_le h fA.size))
      clear oU w1A fA fB nU nX
      go_upto_if 78 with fail
      go_cut [7] (fun s7 wc => ∃ N : Nat, s7 = .int .i64 N ∧ N ≤ l0 ∧ N ≤ l1 ∧ wB = wc)
      case first =>
        by_cases hc : l1 < l0
        · go_wp2
          go_meet
          case rel => exact ⟨l1, rfl, by omega, by omega, rfl⟩
        · go_wp2
          go_meet
          case rel => exact ⟨l0, rfl, by omega, by omega, rfl⟩
      case rest =>
        obtain ⟨N, rfl, hN0, hN1, rfl⟩ := hcut
        obtain ⟨i0, hi, hz0, hz1, hz2⟩ := info_parts Try.info41
        go_wp2_with (at_make; refine wpList_make_full _ rfl _ _ 38 rfl 0 41 i0 (.float .f64 0) 1 Try.underlying38 hi hz0 hz1 _ _ _ _ N rfl rfl rfl rfl (by rw [hz2]; omega) (by unfold maxLen; omega) (Nat.zero_le _) ?_)
        intro wC hown hg
        have oF : Own wC 41 (some ⟨wB.heap.size, 0, none⟩) N N (fun _ => .float .f64 0) := made_own hown
        have fC : Fr (· < wB.heap.size) wB wC := (Fr.refl _ _).grown hg (fun _ h => h) (by simp)
        clear hown hg
        generalize hGF : wB.heap.size = GF at *
        go_wp2_with (at_make; refine wpList_make_full _ rfl _ _ 38 rfl 0 41 i0 (.float .f64 0) 1 Try.underlying38 hi hz0 hz1 _ _ _ _ N rfl rfl rfl rfl (by rw [hz2]; omega) (by unfold maxLen; omega) (Nat.zero_le _) ?_)
        intro wD hown hg
        have oG : Own wD 41 (some ⟨wC.heap.size, 0, none⟩) N N (fun _ => .float .f64 0) := made_own hown
        have fD : Fr (· < wC.heap.size) wC wD := (Fr.refl _ _).grown hg (fun _ h => h) (by simp)
        clear hown hg
        have lF := own_lt oF (g := GF) rfl
        have oF2 := oF.frN fD
        have fBD : Fr (· < GF) wB wD := fC.trans (fD.mono (fun k h => by omega))
        generalize hGG : wC.heap.size = GG at *
        have HFG : GF < GG := by omega
        clear oF fC fD
        have oF3 : Own wD 41 (some ⟨GF, 0, none⟩) N N (fv z0 0) := oF2.congr (fun i hi => rfl)
        have oG3 : Own wD 41 (some ⟨GG, 0, none⟩) N N (fv z1 0) := oG.congr (fun i hi => rfl)
        clear oF2 oG
        have lG := own_lt oG3 (g := GG) rfl
        go_upto_block 4 with fail
        go_cut [10] (fun s10 wE => s10 = .int .i64 (dsum (cl z0 N) (cl z1 N) N) ∧ Own wE 41 (some ⟨GF, 0, none⟩) N N (fv z0 N) ∧ Own wE 41 (some ⟨GG, 0, none⟩) N N (fv z1 N) ∧ Fr (· < GF) wB wE)
        case first =>
          have bx : ∀ i, -1048576 ≤ cl z0 N i ∧ cl z0 N i ≤ 1048576 := fun i => by unfold cl; split; exact B0.out i (by omega); omega
          have by' : ∀ i, -1048576 ≤ cl z1 N i ∧ cl z1 N i ≤ 1048576 := fun i => by unfold cl; split; exact B1.out i (by omega); omega
          have HBB := Hid.mk (And.intro bx by')
          clear bx by' B0 B1
          go_wp2
          go_loopw [10, 11] (fun s i wr => ∃ k : Nat, k ≤ N ∧ i = .int .i64 k ∧ s = .int .i64 (dsum (cl z0 N) (cl z1 N) k) ∧ Own wr 41 (some ⟨GF, 0, none⟩) N N (fv z0 k) ∧ Own wr 41 (some ⟨GG, 0, none⟩) N N (fv z1 k) ∧ Fr (· < GF) wB wr) (fun _ i _ => N - (intOf i).toNat)
          case atStart => exact ⟨0, Nat.zero_le _, rfl, rfl, oF3, oG3, fBD⟩
          case round =>
            clear oF3 oG3 fBD fAB
            obtain ⟨k, hk, rfl, rfl, RF, RG, f⟩ := hrel
            by_cases hlt : k < N
            · obtain ⟨gU, eU, obU, cU1, _⟩ := oU2.get k (by omega)
              obtain ⟨gX, eX, obX, cX1, _⟩ := oX.get k (by omega)
              subst eU eX
              have lU := own_lt oU2 obU
              have lX := own_lt oX obX
              rw [hGF] at lU lX
              have dU : wr.cell? ⟨gU, k, none⟩ = some (.int .i32 (z0 k)) := (f.cell (p := ⟨gU, k, none⟩) lU).trans cU1
              have dX : wr.cell? ⟨gX, k, none⟩ = some (.int .i32 (z1 k)) := (f.cell (p := ⟨gX, k, none⟩) lX).trans cX1
              obtain ⟨_, ef, _, kf1, kf2⟩ := RF.get k hlt
              obtain ⟨_, eg, _, kg1, kg2⟩ := RG.get k hlt
              simp at ef eg
              subst ef eg
              have b1 := dsum_bd _ _ HBB.out.1 HBB.out.2 k
              have b3 := prod_bd _ _ (HBB.out.1 k) (HBB.out.2 k)
              have b4 := HBB.out.1 k
              have b5 := HBB.out.2 k
              have e1 : cl z0 N k = z0 k := by unfold cl; rw [if_pos hlt]
              have e2 : cl z1 N k = z1 k := by unfold cl; rw [if_pos hlt]
              have e3 : dsum (cl z0 N) (cl z1 N) (k + 1) = dsum (cl z0 N) (cl z1 N) k + z0 k * z1 k := by show _ + _ * _ = _; rw [e1, e2]
              rw [e1, e2] at b3
              rw [e1] at b4
              rw [e2] at b5
              obtain ⟨w1, w2, w3, w4⟩ := wraps (dsum (cl z0 N) (cl z1 N) k) (z0 k) (z1 k) k (by omega) b1 b3 b4 b5
              clear b1 b3 b4 b5
              have S1 : ∀ w', Own w' 41 (some ⟨GF, 0, none⟩) N N (fv z0 k) → Own (w'.setCell ⟨GF, k, none⟩ (.float .f64 (floatOfInt .f64 (z0 k)))) 41 (some ⟨GF, 0, none⟩) N N (fv z0 (k + 1)) := fun w' h => h.set k _ (fv_set z0 N k)
              have S2 : ∀ w', Own w' 41 (some ⟨GG, 0, none⟩) N N (fv z1 k) → Own (w'.setCell ⟨GG, k, none⟩ (.float .f64 (floatOfInt .f64 (z1 k)))) 41 (some ⟨GG, 0, none⟩) N N (fv z1 (k + 1)) := fun w' h => h.set k _ (fv_set z1 N k)
              have HS : Hid (dsum (cl z0 N) (cl z1 N) (k + 1) = dsum (cl z0 N) (cl z1 N) k + z0 k * z1 k) := e3
              have HR := Hid.mk (And.intro RF (And.intro RG f))
              have H12 := Hid.mk (And.intro S1 S2)
              clear S1 S2 RF RG f e1 e2 e3 oU2 oX obU obX cU1 cX1 HBB
              generalize dsum (cl z0 N) (cl z1 N) k = D at *
              generalize fv z0 k k = v1 at *
              generalize fv z1 k k = v2 at *
              have i1 : (0 : Int) ≤ (k : Int) := by omega
              have i2 : (k : Int) < (l0 : Int) := by omega
              have i3 : (k : Int) < (l1 : Int) := by omega
              have i4 : (k : Int) < (N : Int) := by omega
              have n1 : gU ≠ GF := by omega
              have n2 : gU ≠ GG := by omega
              have n3 : gX ≠ GF := by omega
              have n4 : gX ≠ GG := by omega
              have n5 : GF ≠ GG := by omega
              generalize z0 k = Z0 at *
              generalize z1 k = Z1 at *
              go_wp2
              have dU2 : ((wr.setCell ⟨GF, k, none⟩ (.float .f64 (floatOfInt .f64 Z0))).setCell ⟨GG, k, none⟩ (.float .f64 (floatOfInt .f64 Z1))).cell? ⟨gU, k, none⟩ = some (.int .i32 Z0) := by
                simp [go_sem, dU]
              have dX2 : ((wr.setCell ⟨GF, k, none⟩ (.float .f64 (floatOfInt .f64 Z0))).setCell ⟨GG, k, none⟩ (.float .f64 (floatOfInt .f64 Z1))).cell? ⟨gX, k, none⟩ = some (.int .i32 Z1) := by
                simp [go_sem, dX]
              clear dU dX
              generalize hWW : (wr.setCell ⟨GF, k, none⟩ (.float .f64 (floatOfInt .f64 Z0))).setCell ⟨GG, k, none⟩ (.float .f64 (floatOfInt .f64 Z1)) = WW at *
              have HRW : Hid (Own WW 41 (some ⟨GF, 0, none⟩) N N (fv z0 (k + 1)) ∧ Own WW 41 (some ⟨GG, 0, none⟩) N N (fv z1 (k + 1)) ∧ Fr (· < GF) wB WW) := by
                obtain ⟨RF, RG, f⟩ := HR.out
                rw [← hWW]
                exact ⟨(H12.out.1 _ RF).setOther (p := ⟨GG, k, none⟩) _ (by simp [Value.ownBlock]; omega), H12.out.2 _ (RG.setOther (p := ⟨GF, k, none⟩) _ (by simp [Value.ownBlock]; omega)), (f.setCell (p := ⟨GF, k, none⟩) (by simp) (.float .f64 (floatOfInt .f64 Z0))).setCell (p := ⟨GG, k, none⟩) (by simp; omega) (.float .f64 (floatOfInt .f64 Z1))⟩
              clear hWW HR H12
              have dU3 : ∀ n, (WW.drewN n).cell? ⟨gU, k, none⟩ = some (.int .i32 Z0) := fun n => by rw [World.cell?_drewN]; exact dU2
              have dX3 : ∀ n, (WW.drewN n).cell? ⟨gX, k, none⟩ = some (.int .i32 Z1) := fun n => by rw [World.cell?_drewN]; exact dX2
              clear dU2 dX2
              go_quiet (fail)
              go_wp2
              go_roundw
              case rel =>
                obtain ⟨RF, RG, f⟩ := HRW.out
                exact ⟨k + 1, by omega, by go_num, by rw [HS.out], RF.drewN _, RG.drewN _, f.drewN _⟩
              case measure => simp [intOf]; omega
            · have e : k = N := by omega
              subst e
              go_wp2
              go_meet
              case rel => exact ⟨rfl, RF, RG, f⟩
        case rest =>
          obtain ⟨rfl, RF, RG, f⟩ := hcut
          have bx : ∀ i, -1048576 ≤ cl z0 N i ∧ cl z0 N i ≤ 1048576 := fun i => by unfold cl; split; exact B0.out i (by omega); omega
          have by' : ∀ i, -1048576 ≤ cl z1 N i ∧ cl z1 N i ≤ 1048576 := fun i => by unfold cl; split; exact B1.out i (by omega); omega
          have p53 : (2 : Nat) ^ 53 = 9007199254740992 := by decide
          have cF : Cel wc (some ⟨GF, 0, none⟩) N N (fun i => .float .f64 (floatOfInt .f64 (z0 i))) := (RF.congr (V' := fun i => .float .f64 (floatOfInt .f64 (z0 i))) (fun i hi => by simp [fv, hi])).cel
          have cG : Cel wc (some ⟨GG, 0, none⟩) N N (fun i => .float .f64 (floatOfInt .f64 (z1 i))) := (RG.congr (V' := fun i => .float .f64 (floatOfInt .f64 (z1 i))) (fun i hi => by simp [fv, hi])).cel
          have iF : ∀ i, i < N → IsI (floatOfInt .f64 (z0 i)) (cl z0 N i) := fun i hi => by
            have b := B0.out i (by omega)
            rw [show cl z0 N i = z0 i by unfold cl; rw [if_pos hi]]
            exact isI_ofInt _ (by omega)
          have iG : ∀ i, i < N → IsI (floatOfInt .f64 (z1 i)) (cl z1 N i) := fun i hi => by
            have b := B1.out i (by omega)
            rw [show cl z1 N i = z1 i by unfold cl; rw [if_pos hi]]
            exact isI_ofInt _ (by omega)
          have bD := dsum_bd _ _ bx by' N
          have iD : IsI (floatOfInt .f64 (dsum (cl z0 N) (cl z1 N) N)) (dsum (cl z0 N) (cl z1 N) N) := isI_ofInt _ (by omega)
          have HB : Hid (Below w.heap.size w wc) := ((fAB.trans (f.mono (fun k h => by have := fAB.size; omega)))).below
          have C1 := Hid.mk (zzdot_any _ N N _ N _ _ _ _ wc (by omega) cF cG iF iG bx by')
          have C2 := Hid.mk (zzdot_any _ N N _ N _ _ _ _ wc (by omega) cG cF iG iF by' bx)
          rw [dsum_comm (cl z1 N)] at C2
          have ID := Hid.mk iD
          clear iD
          generalize dsum (cl z0 N) (cl z1 N) N = D at *
          clear B0 B1 RF RG oF3 oG3 oU2 oX cF cG iF iG bx by' bD f fBD fAB
          go_wp2_with fail
          refine C1.out.mono ?_
          rintro e w' ⟨r, rfl, ir, rfl⟩
          have o1 : FloatKind.f64.format.order r (floatOfInt .f64 D) = some .eq := isI_eq ir ID.out
          have IR := Hid.mk ir
          clear ir ID
          go_wp2_with fail
          refine C2.out.mono ?_
          rintro e w' ⟨r2, rfl, ir2, rfl⟩
          have o2 : FloatKind.f64.format.order r2 r = some .eq := isI_eq ir2 IR.out
          clear IR ir2 C1 C2
          go_wp2
          go_ret
          exact ⟨rfl, HB.out⟩

end Go.Proofs.Qxb6003682a

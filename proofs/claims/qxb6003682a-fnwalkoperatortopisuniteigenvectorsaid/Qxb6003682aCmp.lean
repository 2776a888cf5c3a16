import Derived.Test.Qxb6003682aOps
namespace Go.Proofs.Qxb6003682a
open Ieee
set_option linter.unusedVariables false
set_option exponentiation.threshold 3000

/-- the word stands for a number of at most B units, of either sign -/
def IsS (r B : Nat) : Prop := ∃ (s : Bool) (m k : Nat), double.read r = .number s m (-(k : Int)) ∧ k ≤ 1074 ∧ m * 2 ^ (1074 - k) ≤ B
theorem Near.le2 {e A B : Nat} (h : Near e A B) (he : e ≤ 2 ^ 60) : A ≤ 2 * B := by
  have h1 := Nat.le_trans h.1 (Nat.mul_le_mul_left B (show 2 ^ 60 + e ≤ 2 * 2 ^ 60 by omega))
  rw [← Nat.mul_assoc] at h1
  have := Nat.le_of_mul_le_mul_right h1 (Nat.two_pow_pos 60)
  rwa [Nat.mul_comm] at this
theorem Near.diff_le {e A B X : Nat} (h : A * 2 ^ 60 ≤ B * (2 ^ 60 + e)) (hB : B * e ≤ X * 2 ^ 60) : A ≤ B + X := by
  rw [Nat.mul_add] at h
  have h2 : A * 2 ^ 60 ≤ (B + X) * 2 ^ 60 := by rw [Nat.add_mul]; exact Nat.le_trans h (Nat.add_le_add_left hB _)
  exact Nat.le_of_mul_le_mul_right h2 (Nat.two_pow_pos 60)

theorem sub_small {x y V W e : Nat} (hx : IsV x V) (hy : IsV y W) (v1 : 2 ^ 1000 ≤ V) (v2 : V < 2 ^ 1077) (w1 : 2 ^ 1000 ≤ W) (w2 : W < 2 ^ 1077) (hN : Near e V W) (he : e ≤ 2 ^ 20) : ∃ r, double.sub x y = some r ∧ IsS r (2 ^ 1040) := by
  have d1 : V ≤ W + 2 ^ 1037 := by
    refine Near.diff_le hN.1 ?_
    have := Nat.mul_le_mul (Nat.le_of_lt w2) he
    rwa [← Nat.pow_add, show 1077 + 20 = 1037 + 60 by rfl, Nat.pow_add] at this
  have d2 : W ≤ V + 2 ^ 1037 := by
    refine Near.diff_le hN.2 ?_
    have := Nat.mul_le_mul (Nat.le_of_lt v2) he
    rwa [← Nat.pow_add, show 1077 + 20 = 1037 + 60 by rfl, Nat.pow_add] at this
  obtain ⟨m, k, r1, m0, m1, k1, eV, a1, a2, a3⟩ := hx.parts v1 v2
  obtain ⟨n, l, r2, n0, n1, l1, eW, c1, c2, c3⟩ := hy.parts w1 w2
  clear v1 v2 w1 w2 hN m1 n1
  have hb : min (-(k : Int)) (-(l : Int)) = -((max k l : Nat) : Int) := by omega
  have hk : (-(k : Int) - -((max k l : Nat) : Int)).toNat = max k l - k := by omega
  have hl : (-(l : Int) - -((max k l : Nat) : Int)).toNat = max k l - l := by omega
  obtain ⟨M, hM⟩ : ∃ M, max k l = M := ⟨_, rfl⟩
  rw [hM] at hb hk hl
  have hM2 : M ≤ 130 := by omega
  have hMk : k ≤ M := by omega
  have hMl : l ≤ M := by omega
  clear hM
  obtain ⟨A, hA⟩ : ∃ A, m * 2 ^ (M - k) = A := ⟨_, rfl⟩
  obtain ⟨B, hB⟩ : ∃ B, n * 2 ^ (M - l) = B := ⟨_, rfl⟩
  have eA : V = A * 2 ^ (1074 - M) := by rw [eV, ← hA, Nat.mul_assoc, ← Nat.pow_add, show M - k + (1074 - M) = 1074 - k by omega]
  have eB : W = B * 2 ^ (1074 - M) := by rw [eW, ← hB, Nat.mul_assoc, ← Nat.pow_add, show M - l + (1074 - M) = 1074 - l by omega]
  have tot : signed false m (M - k) + signed true n (M - l) = (A : Int) - (B : Int) := by
    unfold signed
    simp [Nat.shiftLeft_eq, hA, hB]
    omega
  have hsub : double.sub x y = some (double.nearest (if (A : Int) - (B : Int) = 0 then false && true else decide ((A : Int) - (B : Int) < 0)) ((A : Int) - (B : Int)).natAbs (-(M : Int))) := by
    unfold Format.sub
    rw [r1, r2]
    show some (double.nearest _ (signed false m (-(k : Int) - min (-(k : Int)) (-(l : Int))).toNat + signed true n (-(l : Int) - min (-(k : Int)) (-(l : Int))).toNat).natAbs (min (-(k : Int)) (-(l : Int)))) = _
    rw [hb, hk, hl]
    show some (double.nearest (if signed false m (M - k) + signed true n (M - l) = 0 then false && true else decide (signed false m (M - k) + signed true n (M - l) < 0)) (signed false m (M - k) + signed true n (M - l)).natAbs (-(M : Int))) = _
    rw [tot]
  refine ⟨_, hsub, ?_⟩
  generalize (if (A : Int) - (B : Int) = 0 then false && true else decide ((A : Int) - (B : Int) < 0)) = sg
  obtain ⟨t, ht⟩ : ∃ t, ((A : Int) - (B : Int)).natAbs = t := ⟨_, rfl⟩
  rw [ht]
  have tb : t * 2 ^ (1074 - M) ≤ 2 ^ 1037 := by
    rw [eA, eB] at d1 d2
    generalize 2 ^ 1037 = X at *
    generalize 2 ^ (1074 - M) = Y at *
    by_cases hAB : A ≤ B
    · have e1 : t + A = B := by omega
      have e2 : t * Y + A * Y = B * Y := by rw [← Nat.add_mul, e1]
      omega
    · have e1 : t + B = A := by omega
      have e2 : t * Y + B * Y = A * Y := by rw [← Nat.add_mul, e1]
      omega
  by_cases h0 : t = 0
  · subst h0
    refine ⟨sg, 0, 1074, ?_, Nat.le_refl _, by rw [Nat.zero_mul]; exact Nat.zero_le _⟩
    unfold Format.nearest
    rw [if_pos rfl]
    cases sg
    · decide
    · decide
  · have lg := log2_mul_pow t (1074 - M) (by omega)
    have hne : t * 2 ^ (1074 - M) ≠ 0 := Nat.mul_ne_zero h0 (Nat.ne_of_gt (Nat.two_pow_pos _))
    have g2 : (t * 2 ^ (1074 - M)).log2 < 1038 := log2_lt' hne (Nat.lt_of_le_of_lt tb (Nat.pow_lt_pow_right (by omega) (by omega)))
    rw [lg] at g2
    obtain ⟨m', k', r3, m3, k3, hN⟩ := rounded (s := sg) (show 0 < t by omega) (K := M) (by omega) (by omega)
    refine ⟨sg, m', k', r3, k3, ?_⟩
    have h2 := hN.le2 (by decide)
    have e1 : t * TT = t * 2 ^ (1074 - M) * 2 ^ M := by rw [TT_k (show M ≤ 1074 by omega)]; ac_rfl
    rw [e1, ← Nat.mul_assoc] at h2
    have h3 := Nat.le_of_mul_le_mul_right h2 (Nat.two_pow_pos M)
    refine Nat.le_trans h3 (Nat.le_trans (Nat.mul_le_mul_left 2 tb) ?_)
    rw [show (2 : Nat) * 2 ^ 1037 = 2 ^ 1 * 2 ^ 1037 by rfl, ← Nat.pow_add]
    exact Nat.pow_le_pow_right (by omega) (by omega)

theorem read_zero : double.read 0 = .number false 0 (-((1074 : Nat) : Int)) := by decide
theorem read_nano : ∃ c, 2 ^ 52 ≤ c ∧ double.read 4472406533629990549 = .number false c (-((82 : Nat) : Int)) := ⟨4835703278458517, by decide, by rfl⟩
theorem read_one : double.read 4607182418800017408 = .number false (2 ^ 52) (-((52 : Nat) : Int)) := by decide

/-- a small number is not above 1e-9 -/
theorem order_small {y B : Nat} (h : IsS y B) (hB : B ≤ 2 ^ 1044) : (double.order y 4472406533629990549 == some .gt) = false := by
  obtain ⟨s, m, k, r, k1, hm⟩ := h
  obtain ⟨c, hc, rc⟩ := read_nano
  unfold Format.order
  rw [r, rc]
  have hb : min (-(k : Int)) (-((82 : Nat) : Int)) = -((max k 82 : Nat) : Int) := by omega
  have hk : (-(k : Int) - -((max k 82 : Nat) : Int)).toNat = max k 82 - k := by omega
  have hl : (-((82 : Nat) : Int) - -((max k 82 : Nat) : Int)).toNat = max k 82 - 82 := by omega
  show (some (compare (signed s m (-(k : Int) - min (-(k : Int)) (-((82 : Nat) : Int))).toNat) (signed false c (-((82 : Nat) : Int) - min (-(k : Int)) (-((82 : Nat) : Int))).toNat)) == some .gt) = false
  rw [hb, hk, hl]
  obtain ⟨M, hM⟩ : ∃ M, max k 82 = M := ⟨_, rfl⟩
  rw [hM]
  have hMk : k ≤ M := by omega
  have hM8 : 82 ≤ M := by omega
  have hM2 : M ≤ 1074 := by omega
  have key : m * 2 ^ (M - k) ≤ c * 2 ^ (M - 82) := by
    refine Nat.le_of_mul_le_mul_right (c := 2 ^ (1074 - M)) ?_ (Nat.two_pow_pos _)
    rw [Nat.mul_assoc, Nat.mul_assoc, ← Nat.pow_add, ← Nat.pow_add, show M - k + (1074 - M) = 1074 - k by omega, show M - 82 + (1074 - M) = 992 by omega]
    refine Nat.le_trans hm (Nat.le_trans hB ?_)
    have h3 : 2 ^ 52 * 2 ^ 992 ≤ c * 2 ^ 992 := Nat.mul_le_mul_right _ hc
    rwa [← Nat.pow_add] at h3
  have hle : signed s m (M - k) ≤ signed false c (M - 82) := by
    unfold signed
    rw [Nat.shiftLeft_eq, Nat.shiftLeft_eq]
    cases s
    · simp only [Bool.false_eq_true, if_false]
      exact Int.ofNat_le.2 key
    · simp only [if_true, Bool.false_eq_true, if_false]
      have := Int.natCast_nonneg (m * 2 ^ (M - k))
      have := Int.natCast_nonneg (c * 2 ^ (M - 82))
      omega
  generalize signed s m (M - k) = a at *
  generalize signed false c (M - 82) = b at *
  have : compare a b ≠ .gt := by
    intro h
    have := (Int.compare_eq_gt).1 h
    omega
  cases h : compare a b <;> simp_all

/-- a number above nought is above nought -/
theorem order_pos {x V : Nat} (h : IsV x V) (hV : 0 < V) : (double.order x 0 == some .gt) = true := by
  obtain ⟨m, k, r, m1, k1, rfl⟩ := h
  have hm : 0 < m := by
    apply Nat.pos_of_ne_zero
    intro h
    rw [h, Nat.zero_mul] at hV
    omega
  unfold Format.order
  rw [r, read_zero]
  have hb : min (-(k : Int)) (-((1074 : Nat) : Int)) = -((1074 : Nat) : Int) := by omega
  show (some (compare (signed false m (-(k : Int) - min (-(k : Int)) (-((1074 : Nat) : Int))).toNat) (signed false 0 (-((1074 : Nat) : Int) - min (-(k : Int)) (-((1074 : Nat) : Int))).toNat)) == some .gt) = true
  rw [hb]
  generalize (-(k : Int) - -((1074 : Nat) : Int)).toNat = u
  generalize (-((1074 : Nat) : Int) - -((1074 : Nat) : Int)).toNat = v
  have h1 : signed false 0 v = 0 := by unfold signed; simp
  have h2 : 0 < signed false m u := by
    unfold signed
    rw [Nat.shiftLeft_eq]
    simp only [Bool.false_eq_true, if_false]
    exact Int.natCast_pos.2 (Nat.mul_pos hm (Nat.two_pow_pos _))
  rw [h1]
  have h3 : compare (signed false m u) 0 = .gt := Int.compare_eq_gt.2 h2
  rw [h3]
  rfl

theorem isV_one : IsV 4607182418800017408 TT := ⟨2 ^ 52, 52, read_one, by decide, by omega, by rw [TT_k (show 52 ≤ 1074 by omega)]⟩

theorem isV_ofNat (d : Nat) (h0 : 0 < d) (h1 : d < 2 ^ 20) : ∃ V, IsV (Go.FloatKind.f64.nearest (d : Int)) V ∧ Near 256 V (d * TT) := by
  have g := log2_lt' (by omega) h1
  obtain ⟨m, k, r, m1, k1, hN⟩ := rounded (s := false) h0 (K := 0) (by omega) (by omega)
  refine ⟨m * 2 ^ (1074 - k), ⟨m, k, ?_, m1, k1, rfl⟩, by rw [Nat.pow_zero, Nat.mul_one] at hN; exact hN⟩
  have e : Go.FloatKind.f64.nearest (d : Int) = double.nearest false d (-((0 : Nat) : Int)) := by
    show double.nearest (decide ((d : Int) < 0)) (d : Int).natAbs 0 = _
    have h2 : decide ((d : Int) < 0) = false := by simp
    rw [h2]
    rfl
  rw [e]
  exact r

end Go.Proofs.Qxb6003682a

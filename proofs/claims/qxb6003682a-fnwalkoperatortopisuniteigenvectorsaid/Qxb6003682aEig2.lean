import Derived.Test.Qxb6003682aEig
namespace Go.Proofs.Qxb6003682a
open Ieee
set_option linter.unusedVariables false
set_option exponentiation.threshold 3000

theorem isV_zero : IsV 0 0 := ⟨0, 1074, read_zero, by decide, Nat.le_refl _, by rw [Nat.zero_mul]⟩
theorem two_pow_mul (x : Nat) {A : Nat} (h : A ≤ 2 ^ x) : 2 * A ≤ 2 ^ (x + 1) := by rw [Nat.pow_succ, Nat.mul_comm]; exact Nat.mul_le_mul_right _ h

/-- the product's size -/
theorem prod_sz {c V W x y : Nat} (h : Near 256 (c * TT) (V * W)) (h1 : 2 ^ (x + 1075) ≤ V * W) (h2 : V * W ≤ 2 ^ (y + 1073)) : 2 ^ x ≤ c ∧ c ≤ 2 ^ y := by
  constructor
  · refine pow_ge_of (B := 2 * TT) (C := V * W) (y := 1075) (by rw [Nat.mul_left_comm]; exact h.symm.le2 (by decide)) ?_ h1
    exact two_pow_mul 1074 (Nat.le_of_eq TT_is)
  · refine pow_le_of (B := TT) (y := 1074) (h.le2 (by decide)) (Nat.le_of_eq TT_is.symm) ?_
    exact two_pow_mul (y + 1073) h2

/-- the squares' sum -/
def Q1 (E A i x : Nat) : Prop := ∃ sq, IsV x sq ∧ Near (2956 + 257 * i) (sq * E) (A * TT) ∧ sq ≤ 2 ^ 1075
theorem Q1.zero (E : Nat) : Q1 E 0 0 0 := ⟨0, isV_zero, by rw [Nat.zero_mul, Nat.zero_mul]; exact (Near.refl 0).mono (Nat.zero_le _), Nat.zero_le _⟩
theorem Q1.step {E N A i d x xw xt : Nat} (h : Q1 E A i x) (hn : Nm E N) (hd : Nd E N d xw xt) (hi : i ≤ 64) (hA : A + d ≤ E) : ∃ p r, double.mul xt xt = some p ∧ double.add x p = some r ∧ Q1 E (A + d) (i + 1) r := by
  have i1 : 2956 ≤ 2956 + 257 * i := by omega
  have i2 : 2956 + 257 * i ≤ 2 ^ 20 := by omega
  have i4 : 2956 + 257 * (i + 1) ≤ 2 ^ 60 := Nat.le_trans (Nat.add_le_add_left (Nat.mul_le_mul_left 257 (show i + 1 ≤ 65 by omega)) 2956) (by decide)
  have i3 : 2956 + 257 * i + 257 = 2956 + 257 * (i + 1) := by omega
  obtain ⟨sq, v, hs, sz⟩ := h
  obtain ⟨n1, n2, n3, hE⟩ := hn
  obtain ⟨W, t, S, vW, vt, hW, ht, hS, s1, s2, w1, w2, t1, t2⟩ := hd
  have tt1 : 2 ^ (1064 + 1064) ≤ t * t := mul_pow_ge t1 t1
  have tt2 : t * t ≤ 2 ^ (1075 + 1075) := mul_pow_le t2 t2
  obtain ⟨p, c, e1, vc, hc⟩ := isV_mul vt vt (pow_ge tt1 (by decide)) (pow_lt tt2 (by decide))
  obtain ⟨c1, c2⟩ := prod_sz (x := 1053) (y := 1077) hc tt1 tt2
  have b1 : 2 ^ 1000 ≤ sq + c := Nat.le_trans (pow_ge c1 (by decide)) (Nat.le_add_left _ _)
  have b2 : sq + c < 2 ^ 1100 := by
    have h3 : sq + c ≤ 2 ^ 1077 + 2 ^ 1077 := Nat.add_le_add (Nat.le_trans sz (Nat.pow_le_pow_right Nat.two_pos (by decide))) c2
    rw [← Nat.two_mul] at h3
    exact pow_lt (Nat.le_trans h3 (two_pow_mul 1077 (Nat.le_refl _))) (by decide)
  obtain ⟨r, sq', e2, v', hr⟩ := isV_add v vc b1 b2
  have h5 := eig_sum1 i1 i2 hs (eig_c TT_pos hc (eig_t2 TT_pos ht hS n1)) hr
  rw [i3] at h5
  refine ⟨p, r, e1, e2, sq', v', h5, ?_⟩
  have h6 := h5.le2 i4
  have h7 : sq' * E ≤ 2 * TT * E := by
    refine Nat.le_trans h6 ?_
    rw [Nat.mul_assoc 2, Nat.mul_comm TT E]
    exact Nat.mul_le_mul_left _ (Nat.mul_le_mul_right _ hA)
  exact Nat.le_trans (Nat.le_of_mul_le_mul_right h7 hE) (two_pow_mul 1074 (Nat.le_of_eq TT_is))

theorem one_sz : 2 ^ 1000 ≤ TT ∧ TT < 2 ^ 1077 := ⟨by rw [TT_is]; exact Nat.pow_le_pow_right Nat.two_pos (by decide), by rw [TT_is]; exact Nat.pow_lt_pow_right (by decide) (by decide)⟩
/-- what is close to one, less one, is small -/
theorem sub_one {e x V : Nat} (hx : IsV x V) (he : e ≤ 2 ^ 20) (h : Near e V TT) : ∃ r, double.sub x 4607182418800017408 = some r ∧ IsS r (2 ^ 1040) := by
  have he2 : e ≤ 2 ^ 60 := Nat.le_trans he (by decide)
  have h1 : V ≤ 2 ^ 1075 := Nat.le_trans (h.le2 he2) (two_pow_mul 1074 (Nat.le_of_eq TT_is))
  have h2 : 2 ^ 1073 ≤ V := by
    refine pow_ge_of (B := 2) (C := TT) (y := 1) (by rw [Nat.mul_comm]; exact h.symm.le2 he2) (by decide) ?_
    rw [TT_is]
    exact Nat.le_refl _
  exact sub_small hx isV_one (pow_ge h2 (by decide)) (pow_lt h1 (by decide)) one_sz.1 one_sz.2 h he
theorem Q1.fin {E n x : Nat} (h : Q1 E E n x) (hE : 0 < E) (hn : n ≤ 64) : ∃ r, double.sub x 4607182418800017408 = some r ∧ IsS r (2 ^ 1040) := by
  have i2 : 2956 + 257 * n ≤ 2 ^ 20 := by omega
  obtain ⟨sq, v, hs, _⟩ := h
  rw [Nat.mul_comm E TT] at hs
  exact sub_one v i2 (hs.cancel hE)

/-- the weight's own check -/
theorem wt_check {E N d xw xt xd D : Nat} (hd : Nd E N d xw xt) (vD : IsV xd D) (hD : Near 256 D (d * TT)) (h0 : 0 < d) (h1 : d ≤ 2 ^ 6) : ∃ p q r, double.mul xw xw = some p ∧ double.mul p xd = some q ∧ double.sub q 4607182418800017408 = some r ∧ IsS r (2 ^ 1040) := by
  obtain ⟨D1, D2⟩ := ofNat_sz hD h0 h1
  obtain ⟨W, t, S, vW, vt, hW, ht, hS, s1, s2, w1, w2, t1, t2⟩ := hd
  have ww1 : 2 ^ (1065 + 1065) ≤ W * W := mul_pow_ge w1 w1
  have ww2 : W * W ≤ 2 ^ (1076 + 1076) := mul_pow_le w2 w2
  obtain ⟨p, a, e1, va, ha⟩ := isV_mul vW vW (pow_ge ww1 (by decide)) (pow_lt ww2 (by decide))
  obtain ⟨a1, a2⟩ := prod_sz (x := 1055) (y := 1079) ha ww1 ww2
  have ad1 : 2 ^ (1055 + 1073) ≤ a * D := mul_pow_ge a1 D1
  have ad2 : a * D ≤ 2 ^ (1079 + (1075 + 6)) := mul_pow_le a2 D2
  obtain ⟨q, b, e2, vb, hb⟩ := isV_mul va vD (pow_ge ad1 (by decide)) (pow_lt ad2 (by decide))
  obtain ⟨r, e3, hr⟩ := sub_one vb (by decide) (eig_two TT_pos ha hb hD (eig_w2 TT_pos hW hS))
  exact ⟨p, q, r, e1, e2, e3, hr⟩
theorem Nd.pos {E N d xw xt : Nat} (hd : Nd E N d xw xt) : (double.order xw 0 == some .gt) = true ∧ (double.order xt 0 == some .gt) = true := by
  obtain ⟨W, t, S, vW, vt, hW, ht, hS, s1, s2, w1, w2, t1, t2⟩ := hd
  exact ⟨order_pos vW (Nat.lt_of_lt_of_le (Nat.two_pow_pos _) w1), order_pos vt (Nat.lt_of_lt_of_le (Nat.two_pow_pos _) t1)⟩

/-- the neighbours' sum -/
def Q3 (N k x : Nat) : Prop := ∃ s, IsV x s ∧ Near (900 + 257 * k) (s * N) (k * (TT * TT)) ∧ s ≤ 2 ^ 1083
theorem Q3.zero (N : Nat) : Q3 N 0 0 := ⟨0, isV_zero, by rw [Nat.zero_mul, Nat.zero_mul]; exact (Near.refl 0).mono (Nat.zero_le _), Nat.zero_le _⟩
theorem Q3.step {E N k d x xw xt : Nat} (h : Q3 N k x) (hn : Nm E N) (hd : Nd E N d xw xt) (hk : k < 64) : ∃ p r, double.mul xw xt = some p ∧ double.add x p = some r ∧ Q3 N (k + 1) r := by
  have i1 : 900 ≤ 900 + 257 * k := by omega
  have i2 : 900 + 257 * k ≤ 2 ^ 20 := by omega
  have i4 : 900 + 257 * (k + 1) ≤ 2 ^ 60 := Nat.le_trans (Nat.add_le_add_left (Nat.mul_le_mul_left 257 (show k + 1 ≤ 65 by omega)) 900) (by decide)
  have i3 : 900 + 257 * k + 257 = 900 + 257 * (k + 1) := by omega
  have i5 : k + 1 ≤ 2 ^ 6 := by omega
  obtain ⟨s, v, hs, sz⟩ := h
  obtain ⟨n1, n2, n3, hE⟩ := hn
  obtain ⟨W, t, S, vW, vt, hW, ht, hS, s1, s2, w1, w2, t1, t2⟩ := hd
  have wt1 : 2 ^ (1065 + 1064) ≤ W * t := mul_pow_ge w1 t1
  have wt2 : W * t ≤ 2 ^ (1076 + 1075) := mul_pow_le w2 t2
  obtain ⟨p, u, e1, vu, hu⟩ := isV_mul vW vt (pow_ge wt1 (by decide)) (pow_lt wt2 (by decide))
  obtain ⟨u1, u2⟩ := prod_sz (x := 1054) (y := 1078) hu wt1 wt2
  have b1 : 2 ^ 1000 ≤ s + u := Nat.le_trans (pow_ge u1 (by decide)) (Nat.le_add_left _ _)
  have b2 : s + u < 2 ^ 1100 := by
    have h3 : s + u ≤ 2 ^ 1083 + 2 ^ 1083 := Nat.add_le_add sz (Nat.le_trans u2 (Nat.pow_le_pow_right Nat.two_pos (by decide)))
    rw [← Nat.two_mul] at h3
    exact pow_lt (Nat.le_trans h3 (two_pow_mul 1083 (Nat.le_refl _))) (by decide)
  obtain ⟨r, s', e2, v', hr⟩ := isV_add v vu b1 b2
  have hS0 : 0 < S := Nat.lt_of_lt_of_le (Nat.two_pow_pos _) s1
  have h5 := eig_sum3 i1 i2 hs (eig_u TT_pos hu (eig_wt hS0 hW ht)) hr
  rw [i3] at h5
  refine ⟨p, r, e1, e2, s', v', h5, ?_⟩
  refine pow_le_of (B := N) (y := 1073) (h5.le2 i4) n2 ?_
  have h7 : (k + 1) * (TT * TT) ≤ 2 ^ (6 + 2148) := mul_pow_le i5 (Nat.le_of_eq TT2_is)
  exact Nat.le_trans (two_pow_mul _ h7) (Nat.pow_le_pow_right Nat.two_pos (by decide))
theorem Q3.fin {E N d x xw xt : Nat} (h : Q3 N d x) (hn : Nm E N) (hd : Nd E N d xw xt) (h0 : 0 < d) (hk : d ≤ 64) : ∃ p r, double.mul x xw = some p ∧ double.sub p xt = some r ∧ IsS r (2 ^ 1040) := by
  have i2 : 900 + 257 * d ≤ 2 ^ 20 := by omega
  have i3 : 900 + 257 * d + 1929 ≤ 2 ^ 20 := by omega
  have i4 : 900 + 257 * d ≤ 2 ^ 60 := Nat.le_trans i2 (by decide)
  obtain ⟨s, v, hs, sz⟩ := h
  obtain ⟨n1, n2, n3, hE⟩ := hn
  obtain ⟨W, t, S, vW, vt, hW, ht, hS, s1, s2, w1, w2, t1, t2⟩ := hd
  have hs1 : 2 ^ 1065 ≤ s := by
    refine pow_ge_of (B := 2 * N) (C := d * (TT * TT)) (y := 1082) (by rw [Nat.mul_left_comm s 2 N]; exact hs.symm.le2 i4) (two_pow_mul 1081 n3) ?_
    rw [TT2_is]
    exact Nat.le_trans (Nat.pow_le_pow_right Nat.two_pos (by decide)) (Nat.le_mul_of_pos_left _ h0)
  have sw1 : 2 ^ (1065 + 1065) ≤ s * W := mul_pow_ge hs1 w1
  have sw2 : s * W ≤ 2 ^ (1083 + 1076) := mul_pow_le sz w2
  obtain ⟨p, s', e1, v', h'⟩ := isV_mul v vW (pow_ge sw1 (by decide)) (pow_lt sw2 (by decide))
  have hS0 : 0 < S := Nat.lt_of_lt_of_le (Nat.two_pow_pos _) s1
  have hN0 : 0 < N := Nat.lt_of_lt_of_le (Nat.two_pow_pos _) n2
  have h5 := eig_end3 TT_pos hS0 hN0 i2 hs h' hW ht hS
  have i5 : 900 + 257 * d + 1929 ≤ 2 ^ 60 := Nat.le_trans i3 (by decide)
  have q2 : s' ≤ 2 ^ 1076 := Nat.le_trans (h5.le2 i5) (two_pow_mul 1075 t2)
  have q1 : 2 ^ 1063 ≤ s' := by
    refine pow_ge_of (B := 2) (C := t) (y := 1) (by rw [Nat.mul_comm]; exact h5.symm.le2 i5) (by decide) ?_
    exact t1
  obtain ⟨r, e2, hr⟩ := sub_small v' vt (pow_ge q1 (by decide)) (pow_lt q2 (by decide)) (pow_ge t1 (by decide)) (pow_lt t2 (by decide)) h5 i3
  exact ⟨p, r, e1, e2, hr⟩

/-- flipping the sign's bit -/
theorem read_neg (x : Nat) : double.read (x ^^^ 2 ^ 63) = (double.read x).opposite := by
  have hw : double.signWeight = 2 ^ 63 := by rfl
  have e1 : (x ^^^ 2 ^ 63) % 2 ^ 63 = x % 2 ^ 63 := by
    apply Nat.eq_of_testBit_eq
    intro i
    rw [Nat.testBit_mod_two_pow, Nat.testBit_mod_two_pow, Nat.testBit_xor, Nat.testBit_two_pow]
    by_cases h : i < 63
    · have : ¬ 63 = i := by omega
      simp [this]
    · simp [h]
  have e2 : ((x ^^^ 2 ^ 63) / 2 ^ 63 % 2 == 1) = !(x / 2 ^ 63 % 2 == 1) := by
    have h1 : (x ^^^ 2 ^ 63).testBit 63 = !(x.testBit 63) := by rw [Nat.testBit_xor, Nat.testBit_two_pow]; simp
    rw [Nat.testBit_eq_decide_div_mod_eq, Nat.testBit_eq_decide_div_mod_eq] at h1
    rw [show ((x ^^^ 2 ^ 63) / 2 ^ 63 % 2 == 1) = decide ((x ^^^ 2 ^ 63) / 2 ^ 63 % 2 = 1) from rfl, h1]
    rfl
  unfold Format.read
  simp only [hw, e1, e2]
  split
  · rfl
  · split
    · rfl
    · split <;> rfl
theorem IsS.neg {r B : Nat} (h : IsS r B) : IsS (r ^^^ 2 ^ 63) B := by
  obtain ⟨s, m, k, e, h1, h2⟩ := h
  exact ⟨!s, m, k, by rw [read_neg, e]; rfl, h1, h2⟩

end Go.Proofs.Qxb6003682a

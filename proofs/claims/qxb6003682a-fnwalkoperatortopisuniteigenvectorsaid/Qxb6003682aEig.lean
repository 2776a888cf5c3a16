import Derived.Test.Qxb6003682aCmp
namespace Go.Proofs.Qxb6003682a
open Ieee
set_option linter.unusedVariables false
set_option exponentiation.threshold 3000

section
variable {T W S t N d E e s s' A sq sq' c u k a b D : Nat}

theorem eig_w2 (hT : 0 < T) (h1 : Near 321 (W * S) (T * T)) (h2 : Near 1027 (S * S) (d * (T * T))) : Near 1671 (W * W * d) (T * T) := by
  have h3 := h1.mul h1 (by decide)
  have h4 := (h2.times (W * W)).symm
  rw [show S * S * (W * W) = W * S * (W * S) by ac_rfl] at h4
  have h5 := h4.trans h3 (by decide)
  rw [show d * (T * T) * (W * W) = W * W * d * (T * T) by ac_rfl] at h5
  exact h5.cancel (Nat.mul_pos hT hT)

theorem eig_t2 (hT : 0 < T) (h1 : Near 321 (t * N) (S * T)) (h2 : Near 1027 (S * S) (d * (T * T))) (h3 : Near 1027 (N * N) (E * (T * T))) : Near 2699 (t * t * E) (d * (T * T)) := by
  have h4 := h1.mul h1 (by decide)
  have h5 := (h3.times (t * t)).symm
  rw [show N * N * (t * t) = t * N * (t * N) by ac_rfl] at h5
  have h6 := h5.trans h4 (by decide)
  have h7 := h2.times (T * T)
  rw [show S * S * (T * T) = S * T * (S * T) by ac_rfl] at h7
  have h8 := h6.trans h7 (by decide)
  rw [show E * (T * T) * (t * t) = t * t * E * (T * T) by ac_rfl] at h8
  exact h8.cancel (Nat.mul_pos hT hT)

theorem eig_wt (hS : 0 < S) (h1 : Near 321 (W * S) (T * T)) (h2 : Near 321 (t * N) (S * T)) : Near 643 (W * t * N) (T * T * T) := by
  have h3 := h1.mul h2 (by decide)
  rw [show W * S * (t * N) = W * t * N * S by ac_rfl, show T * T * (S * T) = T * T * T * S by ac_rfl] at h3
  exact h3.cancel hS

theorem eig_u (hT : 0 < T) (h1 : Near 256 (u * T) (W * t)) (h2 : Near 643 (W * t * N) (T * T * T)) : Near 900 (u * N) (T * T) := by
  have h3 := h1.times N
  have h4 := h3.trans h2 (by decide)
  rw [show u * T * N = u * N * T by ac_rfl] at h4
  exact h4.cancel hT

theorem eig_c (hT : 0 < T) (h1 : Near 256 (c * T) (t * t)) (h2 : Near 2699 (t * t * E) (d * (T * T))) : Near 2956 (c * E) (d * T) := by
  have h3 := (h1.times E).trans h2 (by decide)
  rw [show c * T * E = c * E * T by ac_rfl, show d * (T * T) = d * T * T by ac_rfl] at h3
  exact h3.cancel hT

theorem eig_sum1 (he : 2956 ≤ e) (he2 : e ≤ 2 ^ 20) (h1 : Near e (sq * E) (A * T)) (h2 : Near 2956 (c * E) (d * T)) (h3 : Near 256 sq' (sq + c)) : Near (e + 257) (sq' * E) ((A + d) * T) := by
  have h4 := h1.add (h2.mono he)
  rw [← Nat.add_mul, ← Nat.add_mul] at h4
  exact ((h3.times E).trans h4 (Nat.le_trans (Nat.mul_le_mul_left _ he2) (by decide))).mono (by omega)

theorem eig_sum3 (he : 900 ≤ e) (he2 : e ≤ 2 ^ 20) (h1 : Near e (s * N) (k * (T * T))) (h2 : Near 900 (u * N) (T * T)) (h3 : Near 256 s' (s + u)) : Near (e + 257) (s' * N) ((k + 1) * (T * T)) := by
  have h4 := h1.add (h2.mono he)
  rw [← Nat.add_mul] at h4
  rw [Nat.add_mul k 1, Nat.one_mul]
  exact ((h3.times N).trans h4 (Nat.le_trans (Nat.mul_le_mul_left _ he2) (by decide))).mono (by omega)

theorem eig_end3 (hT : 0 < T) (hS : 0 < S) (hN : 0 < N) (he2 : e ≤ 2 ^ 20) (h1 : Near e (s * N) (d * (T * T))) (h2 : Near 256 (s' * T) (s * W)) (h3 : Near 321 (W * S) (T * T)) (h4 : Near 321 (t * N) (S * T)) (h5 : Near 1027 (S * S) (d * (T * T))) : Near (e + 1929) s' t := by
  have b1 : e * 321 ≤ 2 ^ 60 := Nat.le_trans (Nat.mul_le_mul_right _ he2) (by decide)
  have h6 := h1.mul h3 b1
  have h7 := h2.times (S * N)
  rw [show s * W * (S * N) = s * N * (W * S) by ac_rfl] at h7
  have h8 := h7.trans h6 (Nat.le_trans (Nat.mul_le_mul_left _ (show e + 321 + 1 ≤ 2 ^ 21 by omega)) (by decide))
  have h9 := h4.times (S * T)
  have h10 := h5.times (T * T)
  rw [show S * S * (T * T) = S * T * (S * T) by ac_rfl] at h10
  have h11 := h9.trans h10 (by decide)
  have h12 := h8.trans h11.symm (Nat.le_trans (Nat.mul_le_mul_right _ (show 256 + (e + 321 + 1) + 1 ≤ 2 ^ 21 by omega)) (by decide))
  rw [show s' * T * (S * N) = s' * (T * S * N) by ac_rfl, show t * N * (S * T) = t * (T * S * N) by ac_rfl] at h12
  exact (h12.cancel (Nat.mul_pos (Nat.mul_pos hT hS) hN)).mono (by omega)

theorem eig_two (hT : 0 < T) (h1 : Near 256 (a * T) (W * W)) (h2 : Near 256 (b * T) (a * D)) (h3 : Near 256 D (d * T)) (h4 : Near 1671 (W * W * d) (T * T)) : Near 2442 b T := by
  have h5 := h3.times a
  rw [show D * a = a * D by ac_rfl] at h5
  have h6 := h2.trans h5 (by decide)
  rw [show d * T * a = a * d * T by ac_rfl] at h6
  have h7 := (h1.times d).trans h4 (by decide)
  rw [show a * T * d = a * d * T by ac_rfl] at h7
  exact ((h6.cancel hT).trans (h7.cancel hT) (by decide)).mono (by omega)
end

/-! sizes -/
theorem pow_le_of {A B C x y : Nat} (h : A * B ≤ C) (hB : 2 ^ y ≤ B) (hC : C ≤ 2 ^ (x + y)) : A ≤ 2 ^ x := by
  refine Nat.le_of_mul_le_mul_right (c := 2 ^ y) ?_ (Nat.two_pow_pos _)
  rw [← Nat.pow_add]
  exact Nat.le_trans (Nat.mul_le_mul_left _ hB) (Nat.le_trans h hC)
theorem pow_ge_of {A B C x y : Nat} (h : C ≤ A * B) (hB : B ≤ 2 ^ y) (hC : 2 ^ (x + y) ≤ C) : 2 ^ x ≤ A := by
  refine Nat.le_of_mul_le_mul_right (c := 2 ^ y) ?_ (Nat.two_pow_pos _)
  rw [← Nat.pow_add]
  exact Nat.le_trans hC (Nat.le_trans h (Nat.mul_le_mul_left _ hB))
theorem sq_pow_le {A x : Nat} (h : A * A ≤ 2 ^ (x + x)) : A ≤ 2 ^ x := sq_le (by rw [← Nat.pow_add]; exact h)
theorem sq_pow_ge {A x : Nat} (h : 2 ^ (x + x) ≤ A * A) : 2 ^ x ≤ A := sq_le (by rw [← Nat.pow_add]; exact h)
theorem mul_pow_le {A B x y : Nat} (h : A ≤ 2 ^ x) (k : B ≤ 2 ^ y) : A * B ≤ 2 ^ (x + y) := by rw [Nat.pow_add]; exact Nat.mul_le_mul h k
theorem mul_pow_ge {A B x y : Nat} (h : 2 ^ x ≤ A) (k : 2 ^ y ≤ B) : 2 ^ (x + y) ≤ A * B := by rw [Nat.pow_add]; exact Nat.mul_le_mul h k
theorem pow_lt {x y : Nat} {A : Nat} (h : A ≤ 2 ^ x) (hxy : x < y) : A < 2 ^ y := Nat.lt_of_le_of_lt h (Nat.pow_lt_pow_right (by omega) hxy)
theorem pow_ge {x y : Nat} {A : Nat} (h : 2 ^ x ≤ A) (hxy : y ≤ x) : 2 ^ y ≤ A := Nat.le_trans (Nat.pow_le_pow_right (by omega) hxy) h
theorem TT_is : TT = 2 ^ 1074 := rfl
theorem TT2_is : TT * TT = 2 ^ 2148 := by rw [TT_is, ← Nat.pow_add]

/-- the float of a whole number -/
theorem ofNat_sz {V d x : Nat} (h : Near 256 V (d * TT)) (h0 : 0 < d) (h1 : d ≤ 2 ^ x) : 2 ^ 1073 ≤ V ∧ V ≤ 2 ^ (1075 + x) := by
  have g1 := h.le2 (by decide)
  have g2 := h.symm.le2 (by decide)
  refine ⟨?_, ?_⟩
  · refine pow_ge_of (B := 2) (C := d * TT) (y := 1) (by rw [Nat.mul_comm V 2]; exact g2) (by decide) ?_
    rw [TT_is]
    exact Nat.le_mul_of_pos_left _ h0
  · refine Nat.le_trans g1 ?_
    have h2 : d * TT ≤ 2 ^ (x + 1074) := mul_pow_le h1 (Nat.le_of_eq TT_is)
    have h3 := Nat.mul_le_mul_left (2 ^ 1) h2
    rw [← Nat.pow_add, show 1 + (x + 1074) = 1075 + x by omega] at h3
    exact h3

/-- a root -/
theorem root_all {x V d z : Nat} (hx : IsV x V) (hd : Near 256 V (d * TT)) (h0 : 0 < d) (h1 : d ≤ 2 ^ z) (hz : z ≤ 12) :
    ∃ r S, double.sqrt x = some r ∧ IsV r S ∧ Near 1027 (S * S) (d * (TT * TT)) ∧ 2 ^ 1073 ≤ S ∧ S ≤ 2 ^ 1081 := by
  have hz2 : 1 + (z + 2148) ≤ 1081 + 1081 := by omega
  have hz3 : 1075 + z < 1088 := by omega
  obtain ⟨v1, v2⟩ := ofNat_sz hd h0 h1
  obtain ⟨r, S, e1, e2, hN⟩ := isV_sqrt hx (pow_ge v1 (by decide)) (pow_lt v2 hz3)
  have h3 : Near 1027 (S * S) (d * (TT * TT)) := by
    have h4 := hN.trans (hd.times TT) (by decide)
    rw [Nat.mul_assoc] at h4
    exact h4
  refine ⟨r, S, e1, e2, h3, sq_pow_ge ?_, sq_pow_le ?_⟩
  · have g := h3.symm.le2 (by decide)
    have g2 : 2 ^ (1073 + 1073) * 2 ≤ S * S * 2 := by
      rw [Nat.mul_comm (S * S)]
      refine Nat.le_trans ?_ g
      rw [TT2_is, ← Nat.pow_succ]
      exact Nat.le_trans (Nat.pow_le_pow_right Nat.two_pos (by decide)) (Nat.le_mul_of_pos_left _ h0)
    exact Nat.le_of_mul_le_mul_right g2 Nat.two_pos
  · refine Nat.le_trans (h3.le2 (by decide)) ?_
    have h4 : d * (TT * TT) ≤ 2 ^ (z + 2148) := mul_pow_le h1 (Nat.le_of_eq TT2_is)
    have h5 := Nat.mul_le_mul_left (2 ^ 1) h4
    rw [← Nat.pow_add] at h5
    have h6 : 2 ^ (1 + (z + 2148)) ≤ 2 ^ (1081 + 1081) := Nat.pow_le_pow_right Nat.two_pos hz2
    exact Nat.le_trans h5 h6

/-- what the weight and the entry of a node of degree d are -/
structure Nd (E N d xw xt : Nat) : Prop where
  all : ∃ W t S, IsV xw W ∧ IsV xt t ∧ Near 321 (W * S) (TT * TT) ∧ Near 321 (t * N) (S * TT) ∧ Near 1027 (S * S) (d * (TT * TT)) ∧ 2 ^ 1073 ≤ S ∧ S ≤ 2 ^ 1081 ∧ 2 ^ 1065 ≤ W ∧ W ≤ 2 ^ 1076 ∧ 2 ^ 1064 ≤ t ∧ t ≤ 2 ^ 1075

/-- the norm -/
def Nm (E N : Nat) : Prop := Near 1027 (N * N) (E * (TT * TT)) ∧ 2 ^ 1073 ≤ N ∧ N ≤ 2 ^ 1081 ∧ 0 < E

theorem nd_made {E N d xs xn S : Nat} (hn : Nm E N) (hd : d ≤ E) (vS : IsV xs S) (vN : IsV xn N) (hS : Near 1027 (S * S) (d * (TT * TT))) (s1 : 2 ^ 1073 ≤ S) (s2 : S ≤ 2 ^ 1081) :
    ∃ xw xt, double.div 4607182418800017408 xs = some xw ∧ double.div xs xn = some xt ∧ Nd E N d xw xt := by
  obtain ⟨n1, n2, n3, hE⟩ := hn
  have t1 : 2 ^ 1060 ≤ TT := by rw [TT_is]; exact Nat.pow_le_pow_right Nat.two_pos (by decide)
  have t2 : TT < 2 ^ 1087 := by rw [TT_is]; exact Nat.pow_lt_pow_right (by decide) (by decide)
  obtain ⟨xw, W, e1, vW, hW⟩ := isV_div isV_one vS t1 t2 (pow_ge s1 (by decide)) (pow_lt s2 (by decide))
  obtain ⟨xt, t, e2, vt, ht⟩ := isV_div vS vN (pow_ge s1 (by decide)) (pow_lt s2 (by decide)) (pow_ge n2 (by decide)) (pow_lt n3 (by decide))
  refine ⟨xw, xt, e1, e2, ⟨W, t, S, vW, vt, hW, ht, hS, s1, s2, ?_, ?_, ?_, ?_⟩⟩
  · have g := hW.symm.le2 (by decide)
    refine pow_ge_of (B := 2 * S) (C := TT * TT) (y := 1082) (by rw [Nat.mul_left_comm]; exact g) ?_ ?_
    · have := Nat.mul_le_mul_left (2 ^ 1) s2
      rw [← Nat.pow_add] at this
      exact this
    · rw [TT2_is]; exact Nat.pow_le_pow_right Nat.two_pos (by decide)
  · have g := hW.le2 (by decide)
    refine pow_le_of (B := S) (y := 1073) g s1 ?_
    rw [TT2_is]
    have := Nat.le_refl (2 ^ 1 * 2 ^ 2148)
    rw [← Nat.pow_add] at this
    exact this
  · have g := ht.symm.le2 (by decide)
    refine pow_ge_of (B := 2 * N) (C := S * TT) (y := 1082) (by rw [Nat.mul_left_comm]; exact g) ?_ ?_
    · have := Nat.mul_le_mul_left (2 ^ 1) n3
      rw [← Nat.pow_add] at this
      exact this
    · exact Nat.le_trans (Nat.pow_le_pow_right Nat.two_pos (by decide)) (mul_pow_ge s1 (Nat.le_of_eq TT_is.symm))
  · have h2 := (eig_t2 TT_pos ht hS n1).le2 (by decide)
    have h3 : t * t * E ≤ 2 * (TT * TT) * E := by
      refine Nat.le_trans h2 ?_
      rw [Nat.mul_assoc 2, Nat.mul_comm (TT * TT) E]
      exact Nat.mul_le_mul_left _ (Nat.mul_le_mul_right _ hd)
    have h4 := Nat.le_of_mul_le_mul_right h3 hE
    refine sq_pow_le (Nat.le_trans h4 ?_)
    rw [TT2_is]
    have := Nat.le_refl (2 ^ 1 * 2 ^ 2148)
    rw [← Nat.pow_add] at this
    exact Nat.le_trans this (Nat.pow_le_pow_right Nat.two_pos (by decide))

end Go.Proofs.Qxb6003682a

import Derived.Test.Qxb6003682aFloat
namespace Go.Proofs.Qxb6003682a
open Ieee
set_option linter.unusedVariables false

/-- A and B stand close: each is at most the other and e parts of 2^60 more -/
def Near (e A B : Nat) : Prop := A * 2 ^ 60 ≤ B * (2 ^ 60 + e) ∧ B * 2 ^ 60 ≤ A * (2 ^ 60 + e)
theorem Near.refl (A : Nat) : Near 0 A A := ⟨by simp, by simp⟩
theorem Near.symm {e A B : Nat} (h : Near e A B) : Near e B A := ⟨h.2, h.1⟩
theorem Near.mono {e f A B : Nat} (h : Near e A B) (hf : e ≤ f) : Near f A B :=
  ⟨Nat.le_trans h.1 (Nat.mul_le_mul_left _ (by omega)), Nat.le_trans h.2 (Nat.mul_le_mul_left _ (by omega))⟩
theorem near_bound (e f : Nat) (h : e * f ≤ 2 ^ 60) : (2 ^ 60 + e) * (2 ^ 60 + f) ≤ 2 ^ 60 * (2 ^ 60 + (e + f + 1)) := by
  have e1 : (2 ^ 60 + e) * (2 ^ 60 + f) = 2 ^ 60 * 2 ^ 60 + 2 ^ 60 * f + (e * 2 ^ 60 + e * f) := by rw [Nat.add_mul, Nat.mul_add, Nat.mul_add]
  have e2 : 2 ^ 60 * (2 ^ 60 + (e + f + 1)) = 2 ^ 60 * 2 ^ 60 + (2 ^ 60 * e + 2 ^ 60 * f + 2 ^ 60) := by rw [Nat.mul_add, Nat.mul_add, Nat.mul_add, Nat.mul_one]
  rw [e1, e2, Nat.mul_comm e (2 ^ 60)]
  omega
/-- one side of the product's law -/
theorem near_mul_le {e f A B C D : Nat} (h : A * 2 ^ 60 ≤ B * (2 ^ 60 + e)) (k : C * 2 ^ 60 ≤ D * (2 ^ 60 + f)) (hef : e * f ≤ 2 ^ 60) : A * C * 2 ^ 60 ≤ B * D * (2 ^ 60 + (e + f + 1)) := by
  have h1 : (A * 2 ^ 60) * (C * 2 ^ 60) ≤ (B * (2 ^ 60 + e)) * (D * (2 ^ 60 + f)) := Nat.mul_le_mul h k
  have h2 : (B * (2 ^ 60 + e)) * (D * (2 ^ 60 + f)) = B * D * ((2 ^ 60 + e) * (2 ^ 60 + f)) := by ac_rfl
  have h3 : B * D * ((2 ^ 60 + e) * (2 ^ 60 + f)) ≤ B * D * (2 ^ 60 * (2 ^ 60 + (e + f + 1))) := Nat.mul_le_mul_left _ (near_bound e f hef)
  have h4 : (A * 2 ^ 60) * (C * 2 ^ 60) = (A * C * 2 ^ 60) * 2 ^ 60 := by ac_rfl
  have h5 : B * D * (2 ^ 60 * (2 ^ 60 + (e + f + 1))) = (B * D * (2 ^ 60 + (e + f + 1))) * 2 ^ 60 := by ac_rfl
  rw [h4, h2] at h1
  rw [h5] at h3
  exact Nat.le_of_mul_le_mul_right (Nat.le_trans h1 h3) (Nat.two_pow_pos 60)
theorem Near.mul {e f A B C D : Nat} (h : Near e A B) (k : Near f C D) (hef : e * f ≤ 2 ^ 60) : Near (e + f + 1) (A * C) (B * D) := ⟨near_mul_le h.1 k.1 hef, near_mul_le h.2 k.2 hef⟩
theorem Near.cancel {e A B C : Nat} (h : Near e (A * C) (B * C)) (hC : 0 < C) : Near e A B := by
  constructor
  · refine Nat.le_of_mul_le_mul_right (c := C) ?_ hC
    have := h.1
    rw [show A * 2 ^ 60 * C = A * C * 2 ^ 60 by ac_rfl, show B * (2 ^ 60 + e) * C = B * C * (2 ^ 60 + e) by ac_rfl]
    exact this
  · refine Nat.le_of_mul_le_mul_right (c := C) ?_ hC
    have := h.2
    rw [show B * 2 ^ 60 * C = B * C * 2 ^ 60 by ac_rfl, show A * (2 ^ 60 + e) * C = A * C * (2 ^ 60 + e) by ac_rfl]
    exact this
theorem Near.times {e A B : Nat} (h : Near e A B) (C : Nat) : Near e (A * C) (B * C) := by
  constructor
  · rw [show A * C * 2 ^ 60 = A * 2 ^ 60 * C by ac_rfl, show B * C * (2 ^ 60 + e) = B * (2 ^ 60 + e) * C by ac_rfl]
    exact Nat.mul_le_mul_right _ h.1
  · rw [show B * C * 2 ^ 60 = B * 2 ^ 60 * C by ac_rfl, show A * C * (2 ^ 60 + e) = A * (2 ^ 60 + e) * C by ac_rfl]
    exact Nat.mul_le_mul_right _ h.2
theorem Near.add {e A B C D : Nat} (h : Near e A B) (k : Near e C D) : Near e (A + C) (B + D) := by
  constructor
  · rw [Nat.add_mul, Nat.add_mul]; exact Nat.add_le_add h.1 k.1
  · rw [Nat.add_mul, Nat.add_mul]; exact Nat.add_le_add h.2 k.2
theorem near_trans_le {e f A B C : Nat} (h : A * 2 ^ 60 ≤ B * (2 ^ 60 + e)) (k : B * 2 ^ 60 ≤ C * (2 ^ 60 + f)) (hef : e * f ≤ 2 ^ 60) : A * 2 ^ 60 ≤ C * (2 ^ 60 + (e + f + 1)) := by
  by_cases hB : B = 0
  · subst hB
    rw [Nat.zero_mul] at h
    have : A * 2 ^ 60 = 0 := by omega
    rw [this]
    exact Nat.zero_le _
  · have h1 := near_mul_le h k hef
    have h2 : A * B * 2 ^ 60 = A * 2 ^ 60 * B := by ac_rfl
    have h3 : B * C * (2 ^ 60 + (e + f + 1)) = C * (2 ^ 60 + (e + f + 1)) * B := by ac_rfl
    rw [h2, h3] at h1
    exact Nat.le_of_mul_le_mul_right h1 (by omega)
theorem Near.trans {e f A B C : Nat} (h : Near e A B) (k : Near f B C) (hef : e * f ≤ 2 ^ 60) : Near (e + f + 1) A C :=
  ⟨near_trans_le h.1 k.1 hef, Nat.le_trans (near_trans_le k.2 h.2 (by rw [Nat.mul_comm]; exact hef)) (Nat.mul_le_mul_left _ (by omega))⟩
theorem sq_le {a b : Nat} (h : a * a ≤ b * b) : a ≤ b := by
  apply Decidable.byContradiction
  intro hc
  have := Nat.mul_lt_mul_of_lt_of_lt (show b < a by omega) (show b < a by omega)
  omega
theorem near_sqrt_le {e A B : Nat} (h : A * A * 2 ^ 60 ≤ B * B * (2 ^ 60 + e)) : A * 2 ^ 60 ≤ B * (2 ^ 60 + e) := by
  apply sq_le
  have h1 : A * A * 2 ^ 60 * 2 ^ 60 ≤ B * B * (2 ^ 60 + e) * (2 ^ 60 + e) := Nat.mul_le_mul h (by omega)
  rw [show A * 2 ^ 60 * (A * 2 ^ 60) = A * A * 2 ^ 60 * 2 ^ 60 by ac_rfl, show B * (2 ^ 60 + e) * (B * (2 ^ 60 + e)) = B * B * (2 ^ 60 + e) * (2 ^ 60 + e) by ac_rfl]
  exact h1
theorem Near.sqrt {e A B : Nat} (h : Near e (A * A) (B * B)) : Near e A B := ⟨near_sqrt_le h.1, near_sqrt_le h.2⟩

/-- 2^1074: a unit -/
def TT : Nat := 2 ^ 1074
/-- the word x stands for the number V / 2^1074 -/
def IsV (x V : Nat) : Prop := ∃ m k : Nat, double.read x = .number false m (-(k : Int)) ∧ m < 2 ^ 53 ∧ k ≤ 1074 ∧ V = m * 2 ^ (1074 - k)

/-- what the cut keeps -/
theorem cut_near (s : Bool) (n d : Nat) (hd : d ≤ n.log2 + 2) : 2 * (Toward.even.cut s n d * 2 ^ d) ≤ 2 * n + 2 ^ d ∧ 2 * n ≤ 2 * (Toward.even.cut s n d * 2 ^ d) + 2 ^ d := by
  unfold Toward.cut
  have hm : min d (n.log2 + 2) = d := by omega
  simp only [hm, Nat.one_shiftLeft]
  have hp := Nat.two_pow_pos d
  have hdm := Nat.div_add_mod n (2 ^ d)
  have hr := Nat.mod_lt n hp
  generalize 2 ^ d = g at *
  generalize hl : n / g = l at *
  generalize hrr : n % g = r at *
  have e1 : g * l = l * g := Nat.mul_comm _ _
  by_cases hc : g < 2 * r
  · have : (decide (g < 2 * r) || (g == 2 * r && l % 2 == 1)) = true := by simp [hc]
    rw [this]
    simp only [Bool.toNat_true, Nat.add_mul, Nat.one_mul]
    constructor <;> omega
  · by_cases hc2 : g = 2 * r
    · by_cases hc3 : l % 2 = 1
      · have : (decide (g < 2 * r) || (g == 2 * r && l % 2 == 1)) = true := by simp [hc2, hc3]
        rw [this]
        simp only [Bool.toNat_true, Nat.add_mul, Nat.one_mul]
        constructor <;> omega
      · have : (decide (g < 2 * r) || (g == 2 * r && l % 2 == 1)) = false := by simp [hc2, hc3]
        rw [this]
        simp only [Bool.toNat_false, Nat.add_zero]
        constructor <;> omega
    · have : (decide (g < 2 * r) || (g == 2 * r && l % 2 == 1)) = false := by simp [hc, hc2]
      rw [this]
      simp only [Bool.toNat_false, Nat.add_zero]
      constructor <;> omega

theorem near_half_le {A M G : Nat} (h1 : 2 * A ≤ 2 * M + G) (h3 : G * 2 ^ 52 ≤ M) : A * 2 ^ 60 ≤ M * (2 ^ 60 + 256) := by
  have e1 : A * 2 ^ 60 = (2 * A) * 2 ^ 59 := by rw [show (2 : Nat) ^ 60 = 2 * 2 ^ 59 by decide]; ac_rfl
  have e2 : (2 * M + G) * 2 ^ 59 = M * 2 ^ 60 + (G * 2 ^ 52) * 2 ^ 7 := by
    have e3 : 2 * M * 2 ^ 59 = M * (2 * 2 ^ 59) := by ac_rfl
    rw [Nat.add_mul, Nat.mul_assoc G, show (2 : Nat) ^ 52 * 2 ^ 7 = 2 ^ 59 by decide, show (2 : Nat) ^ 60 = 2 * 2 ^ 59 by decide, e3]
  rw [e1, Nat.mul_add]
  refine Nat.le_trans (Nat.mul_le_mul_right _ h1) ?_
  rw [e2]
  refine Nat.add_le_add_left (Nat.mul_le_mul h3 ?_) _
  decide
theorem near_of_half {A M G : Nat} (h1 : 2 * A ≤ 2 * M + G) (h2 : 2 * M ≤ 2 * A + G) (h3 : G * 2 ^ 52 ≤ M) (h4 : G * 2 ^ 52 ≤ A) : Near 256 A M := ⟨near_half_le h1 h3, near_half_le h2 h4⟩
theorem TT_split {a b : Nat} (h : a + b = 1074) : TT = 2 ^ a * 2 ^ b := by
  unfold TT
  rw [← h, Nat.pow_add]

/-- rounding to nearest, of whatever number that is neither great nor tiny -/
theorem nearest_near (s : Bool) (mag K : Nat) (h0 : 0 < mag) (h1 : K + 52 ≤ mag.log2 + 1074) (h2 : mag.log2 < K + 52) :
    ∃ m k : Nat, double.read (double.nearest s mag (-(K : Int))) = .number s m (-(k : Int)) ∧ m < 2 ^ 53 ∧ k ≤ 1074 ∧ Near 256 (m * 2 ^ (1074 - k) * 2 ^ K) (mag * TT) := by
  have hp : double.leastPlace = -1074 := by rfl
  have hf : double.fractionBits = 52 := by rfl
  have hb : double.binade = 2 ^ 52 := by rfl
  have hi : double.infRung = 9218868437227405312 := by rfl
  have p52 : (2 : Nat) ^ 52 = 4503599627370496 := by decide
  have p53 : (2 : Nat) ^ 53 = 9007199254740992 := by decide
  have hm0 : mag ≠ 0 := by omega
  have l1 := Nat.log2_self_le hm0
  have l2 := Nat.lt_log2_self (n := mag)
  obtain ⟨L, hL⟩ : ∃ L : Nat, L + mag.log2 = K + 52 := ⟨K + 52 - mag.log2, by omega⟩
  have hlast : max (-(K : Int) + (mag.log2 : Nat) - (double.fractionBits : Nat)) double.leastPlace = -(L : Int) := by
    rw [hf, hp]
    omega
  have key : ∃ kept, Toward.even.cut s (mag <<< (-(K : Int) - -(L : Int)).toNat) (-(L : Int) - -(K : Int)).toNat = kept ∧ 2 ^ 52 ≤ kept ∧ kept ≤ 2 ^ 53 ∧ Near 256 (kept * 2 ^ (1074 - L) * 2 ^ K) (mag * TT) := by
    by_cases hKL : K ≤ L
    · have e1 : (-(K : Int) - -(L : Int)).toNat = L - K := by omega
      have e2 : (-(L : Int) - -(K : Int)).toNat = 0 := by omega
      rw [e1, e2, Nat.shiftLeft_eq]
      have hpos : 0 < mag * 2 ^ (L - K) := Nat.mul_pos h0 (Nat.two_pow_pos _)
      have hce := cut_exact s (mag * 2 ^ (L - K)) 0 hpos
      rw [Nat.pow_zero, Nat.mul_one] at hce
      refine ⟨_, hce, ?_, ?_, ?_⟩
      · have : 2 ^ 52 = 2 ^ mag.log2 * 2 ^ (L - K) := by rw [← Nat.pow_add]; congr 1; omega
        rw [this]
        exact Nat.mul_le_mul_right _ l1
      · have : 2 ^ 53 = 2 ^ (mag.log2 + 1) * 2 ^ (L - K) := by rw [← Nat.pow_add]; congr 1; omega
        rw [this]
        exact Nat.mul_le_mul_right _ (Nat.le_of_lt l2)
      · have e3 : mag * 2 ^ (L - K) * 2 ^ (1074 - L) * 2 ^ K = mag * TT := by
          rw [TT_split (a := L) (b := 1074 - L) (by omega), show 2 ^ L = 2 ^ (L - K) * 2 ^ K by rw [← Nat.pow_add]; congr 1; omega]
          ac_rfl
        rw [e3]
        exact (Near.refl _).mono (by omega)
    · have e1 : (-(K : Int) - -(L : Int)).toNat = 0 := by omega
      have e2 : (-(L : Int) - -(K : Int)).toNat = K - L := by omega
      rw [e1, e2, Nat.shiftLeft_zero]
      have hc := cut_near s mag (K - L) (by omega)
      generalize Toward.even.cut s mag (K - L) = kept at *
      have hG := Nat.two_pow_pos (K - L)
      have g1 : 2 ^ (K - L) * 2 ^ 52 ≤ mag := by
        rw [← Nat.pow_add, show K - L + 52 = mag.log2 by omega]
        exact l1
      have g2 : mag < 2 ^ (K - L) * 2 ^ 53 := by
        rw [← Nat.pow_add, show K - L + 53 = mag.log2 + 1 by omega]
        exact l2
      have eT : kept * 2 ^ (1074 - L) * 2 ^ K = kept * 2 ^ (K - L) * TT := by
        rw [TT_split (a := L) (b := 1074 - L) (by omega), show 2 ^ K = 2 ^ (K - L) * 2 ^ L by rw [← Nat.pow_add]; congr 1; omega]
        ac_rfl
      generalize 2 ^ (K - L) = G at *
      have k1 : 2 ^ 52 ≤ kept := by
        apply Decidable.byContradiction
        intro hk
        have h3 : (kept + 1) * G ≤ 2 ^ 52 * G := Nat.mul_le_mul_right _ (by omega)
        rw [Nat.add_mul, Nat.one_mul] at h3
        have h4 := hc.2
        rw [Nat.mul_comm (2 ^ 52) G] at h3
        omega
      have k2 : kept ≤ 2 ^ 53 := by
        apply Decidable.byContradiction
        intro hk
        have h3 : (2 ^ 53 + 1) * G ≤ kept * G := Nat.mul_le_mul_right _ (by omega)
        rw [Nat.add_mul, Nat.one_mul, Nat.mul_comm (2 ^ 53) G] at h3
        have h4 := hc.1
        omega
      refine ⟨_, rfl, k1, k2, ?_⟩
      rw [eT]
      exact (near_of_half hc.1 hc.2 g1 (by rw [Nat.mul_comm G]; exact Nat.mul_le_mul_right _ k1)).times TT
  obtain ⟨kept, hk, k1, k2, hN⟩ := key
  have hrd : double.nearest s mag (-(K : Int)) = double.word s ((1074 - L) * 2 ^ 52 + kept) := by
    unfold Format.nearest
    rw [if_neg hm0]
    simp only [hlast, hk]
    have e3 : (-(L : Int) - double.leastPlace).toNat = 1074 - L := by rw [hp]; omega
    rw [e3, hb, Nat.min_eq_left (by rw [hi]; rw [p53] at k2; rw [p52]; omega)]
  rw [hrd]
  by_cases hlt : kept < 2 ^ 53
  · exact ⟨kept, L, read_word s kept L k1 hlt (by omega), hlt, by omega, hN⟩
  · have e : kept = 2 ^ 53 := by omega
    subst e
    have hw : (1074 - L) * 2 ^ 52 + 2 ^ 53 = (1074 - (L - 1)) * 2 ^ 52 + 2 ^ 52 := by
      rw [show 1074 - (L - 1) = (1074 - L) + 1 by omega]
      generalize 1074 - L = y
      have e5 : (2 : Nat) ^ 53 = 2 ^ 52 + 2 ^ 52 := by decide
      rw [Nat.add_mul, Nat.one_mul, e5, Nat.add_assoc]
    rw [hw]
    refine ⟨2 ^ 52, L - 1, read_word s (2 ^ 52) (L - 1) (Nat.le_refl _) (by rw [p52, p53]; omega) (by omega), by rw [p52, p53]; omega, by omega, ?_⟩
    have e4 : 2 ^ 52 * 2 ^ (1074 - (L - 1)) = 2 ^ 53 * 2 ^ (1074 - L) := by
      rw [← Nat.pow_add, ← Nat.pow_add]
      congr 1
      omega
    rw [e4]
    exact hN

end Go.Proofs.Qxb6003682a

import Derived.Test.Qxb6003682aRound
namespace Go.Proofs.Qxb6003682a
open Ieee
set_option linter.unusedVariables false

theorem TT_k {k : Nat} (h : k ≤ 1074) : TT = 2 ^ k * 2 ^ (1074 - k) := TT_split (by omega)
theorem TT_pos : 0 < TT := by
  obtain ⟨k, hk⟩ : ∃ k : Nat, k ≤ 1074 := ⟨1, by omega⟩
  rw [TT_k hk]
  exact Nat.mul_pos (Nat.two_pow_pos _) (Nat.two_pow_pos _)
theorem log2_lt' {A b : Nat} (h0 : A ≠ 0) (h : A < 2 ^ b) : A.log2 < b := (Nat.log2_lt h0).2 h
theorem le_log2' {A b : Nat} (h0 : A ≠ 0) (h : 2 ^ b ≤ A) : b ≤ A.log2 := (Nat.le_log2 h0).2 h

/-- a rounded number, in units -/
theorem rounded {s : Bool} {mag K : Nat} (h0 : 0 < mag) (h1 : K + 52 ≤ mag.log2 + 1074) (h2 : mag.log2 < K + 52) : ∃ m k : Nat, double.read (double.nearest s mag (-(K : Int))) = .number s m (-(k : Int)) ∧ m < 2 ^ 53 ∧ k ≤ 1074 ∧ Near 256 (m * 2 ^ (1074 - k) * 2 ^ K) (mag * TT) := nearest_near s mag K h0 h1 h2

theorem isV_mul {x y V W : Nat} (hx : IsV x V) (hy : IsV y W) (b1 : 2 ^ 2000 ≤ V * W) (b2 : V * W < 2 ^ 2180) : ∃ r U, double.mul x y = some r ∧ IsV r U ∧ Near 256 (U * TT) (V * W) := by
  obtain ⟨m, k, r1, m1, k1, rfl⟩ := hx
  obtain ⟨n, l, r2, n1, l1, rfl⟩ := hy
  have hp : (-(k : Int) + -(l : Int)) = -((k + l : Nat) : Int) := by omega
  have eVW : m * 2 ^ (1074 - k) * (n * 2 ^ (1074 - l)) = m * n * 2 ^ (2148 - (k + l)) := by
    rw [show 2148 - (k + l) = (1074 - k) + (1074 - l) by omega, Nat.pow_add]
    ac_rfl
  have hpos : 0 < m * n := by
    apply Nat.pos_of_ne_zero
    intro h
    rw [eVW, h, Nat.zero_mul] at b1
    have := Nat.two_pow_pos 2000
    omega
  have hne : m * 2 ^ (1074 - k) * (n * 2 ^ (1074 - l)) ≠ 0 := by have := Nat.two_pow_pos 2000; omega
  have lg := log2_mul_pow (m * n) (2148 - (k + l)) hpos
  have g1 := le_log2' hne b1
  have g2 := log2_lt' hne b2
  rw [eVW, lg] at g1 g2
  obtain ⟨m', k', r3, m3, k3, hN⟩ := rounded (s := false ^^ false) hpos (K := k + l) (by omega) (by omega)
  refine ⟨double.nearest (false ^^ false) (m * n) (-((k + l : Nat) : Int)), m' * 2 ^ (1074 - k'), ?_, ⟨m', k', r3, m3, k3, rfl⟩, ?_⟩
  · unfold Format.mul
    rw [r1, r2, ← hp]
    rfl
  · refine Near.cancel (C := TT) ?_ TT_pos
    have h3 := (hN.times (2 ^ (1074 - k))).times (2 ^ (1074 - l))
    have e1 : m' * 2 ^ (1074 - k') * 2 ^ (k + l) * 2 ^ (1074 - k) * 2 ^ (1074 - l) = m' * 2 ^ (1074 - k') * TT * TT := by
      rw [Nat.pow_add, show m' * 2 ^ (1074 - k') * TT * TT = m' * 2 ^ (1074 - k') * (2 ^ k * 2 ^ (1074 - k)) * (2 ^ l * 2 ^ (1074 - l)) by rw [← TT_k k1, ← TT_k l1]]
      ac_rfl
    have e2 : m * n * TT * 2 ^ (1074 - k) * 2 ^ (1074 - l) = m * 2 ^ (1074 - k) * (n * 2 ^ (1074 - l)) * TT := by
      generalize 2 ^ (1074 - k) = A
      generalize 2 ^ (1074 - l) = B
      generalize TT = C
      ac_rfl
    rw [e1, e2] at h3
    exact h3

theorem isV_add {x y V W : Nat} (hx : IsV x V) (hy : IsV y W) (b1 : 2 ^ 1000 ≤ V + W) (b2 : V + W < 2 ^ 1100) : ∃ r U, double.add x y = some r ∧ IsV r U ∧ Near 256 U (V + W) := by
  obtain ⟨m, k, r1, m1, k1, rfl⟩ := hx
  obtain ⟨n, l, r2, n1, l1, rfl⟩ := hy
  have hb : min (-(k : Int)) (-(l : Int)) = -((max k l : Nat) : Int) := by omega
  have hk : (-(k : Int) - -((max k l : Nat) : Int)).toNat = max k l - k := by omega
  have hl : (-(l : Int) - -((max k l : Nat) : Int)).toNat = max k l - l := by omega
  obtain ⟨M, hM⟩ : ∃ M, max k l = M := ⟨_, rfl⟩
  rw [hM] at hb hk hl
  have hMk : k ≤ M := by omega
  have hMl : l ≤ M := by omega
  have hM2 : M ≤ 1074 := by omega
  have eS : m * 2 ^ (1074 - k) + n * 2 ^ (1074 - l) = (m * 2 ^ (M - k) + n * 2 ^ (M - l)) * 2 ^ (1074 - M) := by
    rw [Nat.add_mul, Nat.mul_assoc, Nat.mul_assoc, ← Nat.pow_add, ← Nat.pow_add, show M - k + (1074 - M) = 1074 - k by omega, show M - l + (1074 - M) = 1074 - l by omega]
  rw [eS] at b1 b2 ⊢
  have hpos : 0 < m * 2 ^ (M - k) + n * 2 ^ (M - l) := by
    apply Nat.pos_of_ne_zero
    intro h
    rw [h, Nat.zero_mul] at b1
    have := Nat.two_pow_pos 1000
    omega
  have hne : (m * 2 ^ (M - k) + n * 2 ^ (M - l)) * 2 ^ (1074 - M) ≠ 0 := by have := Nat.two_pow_pos 1000; omega
  have lg := log2_mul_pow _ (1074 - M) hpos
  have g1 := le_log2' hne b1
  have g2 := log2_lt' hne b2
  rw [lg] at g1 g2
  have tot : signed false m (M - k) + signed false n (M - l) = ((m * 2 ^ (M - k) + n * 2 ^ (M - l) : Nat) : Int) := by
    unfold signed
    simp [Nat.shiftLeft_eq]
  generalize hT : m * 2 ^ (M - k) + n * 2 ^ (M - l) = t at *
  obtain ⟨m', k', r3, m3, k3, hN⟩ := rounded (s := false) hpos (K := M) (by omega) (by omega)
  refine ⟨double.nearest false t (-((M : Nat) : Int)), m' * 2 ^ (1074 - k'), ?_, ⟨m', k', r3, m3, k3, rfl⟩, ?_⟩
  · unfold Format.add
    rw [r1, r2]
    show some (double.nearest _ (signed false m (-(k : Int) - min (-(k : Int)) (-(l : Int))).toNat + signed false n (-(l : Int) - min (-(k : Int)) (-(l : Int))).toNat).natAbs (min (-(k : Int)) (-(l : Int)))) = _
    rw [hb, hk, hl, tot]
    have h1 : ¬ ((t : Nat) : Int) = 0 := by omega
    have h2 : ¬ ((t : Nat) : Int) < 0 := by omega
    rw [if_neg h1]
    simp [h2]
  · refine Near.cancel (C := 2 ^ M) ?_ (Nat.two_pow_pos _)
    have e1 : t * 2 ^ (1074 - M) * 2 ^ M = t * TT := by rw [TT_k hM2]; ac_rfl
    rw [e1]
    exact hN

/-- what IsV tells of a number that is neither great nor tiny -/
theorem IsV.parts {x V a b : Nat} (hx : IsV x V) (h1 : 2 ^ a ≤ V) (h2 : V < 2 ^ b) : ∃ m k : Nat, double.read x = .number false m (-(k : Int)) ∧ 0 < m ∧ m < 2 ^ 53 ∧ k ≤ 1074 ∧ V = m * 2 ^ (1074 - k) ∧ a ≤ m.log2 + (1074 - k) ∧ m.log2 + (1074 - k) < b ∧ m.log2 ≤ 52 := by
  obtain ⟨m, k, r1, m1, k1, rfl⟩ := hx
  have hp := Nat.two_pow_pos a
  have hm : 0 < m := by
    apply Nat.pos_of_ne_zero
    intro h
    rw [h, Nat.zero_mul] at h1
    omega
  have hne : m * 2 ^ (1074 - k) ≠ 0 := by omega
  have lg := log2_mul_pow m (1074 - k) hm
  have g1 := le_log2' hne h1
  have g2 := log2_lt' hne h2
  rw [lg] at g1 g2
  have g3 := log2_lt' (by omega : m ≠ 0) m1
  exact ⟨m, k, r1, hm, m1, k1, rfl, g1, g2, by omega⟩

/-- a whole part and a sticky digit -/
theorem near_sticky {A B n : Nat} (h1 : A ≤ B + n) (h2 : B ≤ A + n) (h3 : n * 2 ^ 54 ≤ A) (h4 : n * 2 ^ 54 ≤ B) : Near 64 A B := by
  have key : ∀ A B : Nat, A ≤ B + n → n * 2 ^ 54 ≤ B → A * 2 ^ 60 ≤ B * (2 ^ 60 + 64) := by
    intro A B h1 h4
    refine Nat.le_trans (Nat.mul_le_mul_right _ h1) ?_
    rw [Nat.add_mul, Nat.mul_add]
    refine Nat.add_le_add_left ?_ _
    have e1 : n * 2 ^ 60 = n * 2 ^ 54 * 64 := by rw [Nat.mul_assoc, show (2 : Nat) ^ 54 * 64 = 2 ^ 60 by decide]
    rw [e1]
    exact Nat.mul_le_mul_right _ h4
  exact ⟨key A B h1 h4, key B A h2 h3⟩

theorem isV_div {x y V W : Nat} (hx : IsV x V) (hy : IsV y W) (v1 : 2 ^ 1060 ≤ V) (v2 : V < 2 ^ 1087) (w1 : 2 ^ 1060 ≤ W) (w2 : W < 2 ^ 1087) : ∃ r U, double.div x y = some r ∧ IsV r U ∧ Near 321 (U * W) (V * TT) := by
  obtain ⟨m, k, r1, m0, m1, k1, eV, a1, a2, a3⟩ := hx.parts v1 v2
  obtain ⟨n, l, r2, n0, n1, l1, eW, c1, c2, c3⟩ := hy.parts w1 w2
  clear v1 v2 w1 w2
  -- the quotient
  have lm1 := Nat.log2_self_le (show m ≠ 0 by omega)
  have lm2 := Nat.lt_log2_self (n := m)
  have ln1 := Nat.log2_self_le (show n ≠ 0 by omega)
  have ln2 := Nat.lt_log2_self (n := n)
  obtain ⟨more, hmore⟩ : ∃ more, more + m.log2 = 54 + n.log2 := ⟨54 + n.log2 - m.log2, by omega⟩
  have hmo : double.fractionBits + 2 + n.log2 - m.log2 = more := by
    have : double.fractionBits = 52 := rfl
    omega
  obtain ⟨K, hK⟩ : ∃ K : Nat, K + l = k + more + 1 := ⟨k + more + 1 - l, by omega⟩
  have hplace : -(k : Int) - -(l : Int) - (more : Int) - 1 = -(K : Int) := by omega
  obtain ⟨D, hD⟩ : ∃ D, m * 2 ^ more = D := ⟨_, rfl⟩
  have d1 : 2 ^ (54 + n.log2) ≤ D := by
    rw [← hD, ← hmore, Nat.add_comm more, Nat.pow_add]
    exact Nat.mul_le_mul_right _ lm1
  have d2 : D < 2 ^ (55 + n.log2) := by
    rw [← hD, show 55 + n.log2 = (m.log2 + 1) + more by omega, Nat.pow_add]
    exact Nat.mul_lt_mul_of_pos_right lm2 (Nat.two_pow_pos _)
  have q1 : 2 ^ 53 ≤ D / n := by
    rw [Nat.le_div_iff_mul_le n0]
    have h3 : 2 ^ 53 * n ≤ 2 ^ 53 * 2 ^ (n.log2 + 1) := Nat.mul_le_mul_left _ (Nat.le_of_lt ln2)
    rw [← Nat.pow_add, show 53 + (n.log2 + 1) = 54 + n.log2 by omega] at h3
    omega
  have q2 : D / n < 2 ^ 55 := by
    rw [Nat.div_lt_iff_lt_mul n0]
    have h3 : 2 ^ 55 * 2 ^ n.log2 ≤ 2 ^ 55 * n := Nat.mul_le_mul_left _ ln1
    rw [← Nat.pow_add] at h3
    omega
  have hdm := Nat.div_add_mod D n
  have hr := Nat.mod_lt D n0
  obtain ⟨st, hst⟩ : ∃ st : Nat, (D % n != 0).toNat = st := ⟨_, rfl⟩
  have hst2 : (st = 0 ∧ D % n = 0) ∨ (st = 1 ∧ 0 < D % n) := by
    by_cases h : D % n = 0
    · left; rw [h] at hst; simp at hst; exact ⟨hst.symm, h⟩
    · right
      have : (D % n != 0) = true := by simpa using h
      rw [this] at hst
      exact ⟨hst.symm, by omega⟩
  obtain ⟨mag, hmag⟩ : ∃ mag, 2 * (D / n) + st = mag := ⟨_, rfl⟩
  have g1 : 2 ^ 54 ≤ mag := by
    have : (2 : Nat) ^ 54 = 2 * 2 ^ 53 := by decide
    omega
  have g2 : mag < 2 ^ 56 := by
    have : (2 : Nat) ^ 56 = 2 * 2 ^ 55 := by decide
    omega
  have g0 : 0 < mag := by have := Nat.two_pow_pos 54; omega
  have gl1 := le_log2' (by omega) g1
  have gl2 := log2_lt' (by omega) g2
  have hq : Near 64 (mag * n) (2 * D) := by
    have en : n * (D / n) = D / n * n := Nat.mul_comm _ _
    have em : mag * n = 2 * (D / n * n) + st * n := by rw [← hmag, Nat.add_mul, Nat.mul_assoc]
    have es : st * n = 0 ∨ st * n = n := by
      rcases hst2 with ⟨h, _⟩ | ⟨h, _⟩ <;> simp [h]
    refine near_sticky (n := n) ?_ ?_ ?_ ?_
    · rw [em]; rcases hst2 with ⟨h, h'⟩ | ⟨h, h'⟩ <;> rw [h] <;> omega
    · rw [em]; rcases hst2 with ⟨h, h'⟩ | ⟨h, h'⟩ <;> rw [h] <;> omega
    · rw [Nat.mul_comm]; exact Nat.mul_le_mul_right _ g1
    · have h5 : n * 2 ^ 54 = 2 * (n * 2 ^ 53) := by rw [show (2 : Nat) ^ 54 = 2 * 2 ^ 53 by decide]; ac_rfl
      have h6 : n * 2 ^ 53 ≤ n * (D / n) := Nat.mul_le_mul_left _ q1
      rw [h5]
      exact Nat.mul_le_mul_left 2 (Nat.le_trans h6 (Nat.mul_div_le D n))
  obtain ⟨m', k', r3, m3, k3, hN⟩ := rounded (s := false ^^ false) g0 (K := K) (by omega) (by omega)
  refine ⟨double.nearest (false ^^ false) mag (-(K : Int)), m' * 2 ^ (1074 - k'), ?_, ⟨m', k', r3, m3, k3, rfl⟩, ?_⟩
  · unfold Format.div
    rw [r1, r2]
    show (Datum.quotient (double.fractionBits + 2) (.number false m (-(k : Int))) (.number false n (-(l : Int)))).map double.write = _
    unfold Datum.quotient
    simp only [hmo, Nat.shiftLeft_eq, hD, hst, hmag, hplace]
    rw [if_neg (by omega)]
    rfl
  · generalize hU : m' * 2 ^ (1074 - k') = U at *
    have h3 : Near 321 (U * 2 ^ K * n) (2 * D * TT) := by
      have h4 := hN.times n
      rw [Nat.mul_right_comm mag TT n] at h4
      exact (h4.trans (hq.times TT) (by decide)).mono (by omega)
    have h5 : Near 321 (U * W) (V * TT) := by
      refine Near.cancel (C := 2 ^ (more + 1) * TT) ?_ (Nat.mul_pos (Nat.two_pow_pos _) TT_pos)
      have h6 := (h3.times (2 ^ l)).times (2 ^ (1074 - l) * 2 ^ (1074 - k))
      have e1 : U * 2 ^ K * n * 2 ^ l * (2 ^ (1074 - l) * 2 ^ (1074 - k)) = U * W * (2 ^ (more + 1) * TT) := by
        have e2 : 2 ^ K * 2 ^ l = 2 ^ k * 2 ^ (more + 1) := by rw [← Nat.pow_add, ← Nat.pow_add, hK, Nat.add_assoc]
        rw [eW, TT_k k1]
        generalize 2 ^ (1074 - l) = A
        generalize 2 ^ (1074 - k) = B
        generalize 2 ^ (more + 1) = C at *
        rw [show U * 2 ^ K * n * 2 ^ l * (A * B) = U * n * (2 ^ K * 2 ^ l) * (A * B) by ac_rfl, e2]
        ac_rfl
      have e3 : 2 * D * TT * 2 ^ l * (2 ^ (1074 - l) * 2 ^ (1074 - k)) = V * TT * (2 ^ (more + 1) * TT) := by
        rw [eV, ← hD, Nat.pow_succ 2 more]
        have e4 : 2 ^ l * 2 ^ (1074 - l) = TT := (TT_k l1).symm
        generalize 2 ^ (1074 - l) = A at *
        generalize 2 ^ (1074 - k) = B
        generalize 2 ^ more = C
        generalize 2 ^ l = E at *
        generalize TT = F at *
        rw [show 2 * (m * C) * F * E * (A * B) = 2 * (m * C) * F * (E * A) * B by ac_rfl, e4]
        ac_rfl
      rw [e1, e3] at h6
      exact h6
    exact h5

theorem near_sticky2 {A B n : Nat} (h1 : A ≤ B + n) (h2 : B ≤ A + n) (h3 : n * 2 ^ 52 ≤ A) (h4 : n * 2 ^ 52 ≤ B) : Near 256 A B := by
  have key : ∀ A B : Nat, A ≤ B + n → n * 2 ^ 52 ≤ B → A * 2 ^ 60 ≤ B * (2 ^ 60 + 256) := by
    intro A B h1 h4
    refine Nat.le_trans (Nat.mul_le_mul_right _ h1) ?_
    rw [Nat.add_mul, Nat.mul_add]
    refine Nat.add_le_add_left ?_ _
    have e1 : n * 2 ^ 60 = n * 2 ^ 52 * 256 := by rw [Nat.mul_assoc, show (2 : Nat) ^ 52 * 256 = 2 ^ 60 by decide]
    rw [e1]
    exact Nat.mul_le_mul_right _ h4
  exact ⟨key A B h1 h4, key B A h2 h3⟩
theorem root_near {wh n mag : Nat} (w1 : wh * wh ≤ n) (w2 : n < (wh + 1) * (wh + 1)) (wl : 2 ^ 54 ≤ wh) (h1 : 2 * wh ≤ mag) (h2 : mag ≤ 2 * wh + 1) : Near 256 (mag * mag) (4 * n) := by
  have e0 : (wh + 1) * (wh + 1) = wh * wh + 2 * wh + 1 := by rw [Nat.add_mul, Nat.mul_add, Nat.mul_one, Nat.one_mul]; omega
  have h5 : (2 * wh + 1) * (2 * wh + 1) = 4 * (wh * wh) + 4 * wh + 1 := by
    rw [Nat.add_mul, Nat.mul_add, Nat.mul_one, Nat.one_mul, show 2 * wh * (2 * wh) = 4 * (wh * wh) by rw [show (4 : Nat) = 2 * 2 by rfl]; ac_rfl]
    omega
  have h6 : (2 * wh) * (2 * wh) = 4 * (wh * wh) := by rw [show (4 : Nat) = 2 * 2 by rfl]; ac_rfl
  have h7 : mag * mag ≤ (2 * wh + 1) * (2 * wh + 1) := Nat.mul_le_mul h2 h2
  have h8 : (2 * wh) * (2 * wh) ≤ mag * mag := Nat.mul_le_mul h1 h1
  have big : wh * 2 ^ 54 ≤ wh * wh := Nat.mul_le_mul_left _ wl
  have b2 : 8 * wh * 2 ^ 52 = 2 * (wh * 2 ^ 54) := by rw [show (2 : Nat) ^ 54 = 4 * 2 ^ 52 by decide, show (8 : Nat) = 2 * 4 by rfl]; ac_rfl
  have wpos : 1 ≤ wh := Nat.le_trans (Nat.two_pow_pos 54) wl
  rw [e0] at w2
  rw [h5] at h7
  rw [h6] at h8
  clear wl h1 h2 e0 h5 h6
  obtain ⟨y, hy⟩ : ∃ y, wh * 2 ^ 54 = y := ⟨_, rfl⟩
  obtain ⟨q, hq⟩ : ∃ q, wh * wh = q := ⟨_, rfl⟩
  obtain ⟨r, hr⟩ : ∃ r, mag * mag = r := ⟨_, rfl⟩
  rw [hy, hq] at big
  rw [hy] at b2
  rw [hq] at w1 w2 h7 h8
  rw [hr] at h7 h8 ⊢
  clear hy hq hr
  refine near_sticky2 (n := 8 * wh) (by omega) (by omega) ?_ ?_
  · rw [b2]; clear b2; omega
  · rw [b2]; clear b2; omega
/-- the digits' search finds the whole root -/
theorem rootFrom_is (n : Nat) : ∀ (todo root : Nat), root * root ≤ n → n < (root + 2 ^ todo) * (root + 2 ^ todo) → Datum.rootFrom n todo root * Datum.rootFrom n todo root ≤ n ∧ n < (Datum.rootFrom n todo root + 1) * (Datum.rootFrom n todo root + 1)
  | 0, root, h1, h2 => by
    rw [Nat.pow_zero] at h2
    exact ⟨h1, h2⟩
  | todo + 1, root, h1, h2 => by
    unfold Datum.rootFrom
    simp only [Nat.one_shiftLeft]
    by_cases h : (root + 2 ^ todo) * (root + 2 ^ todo) ≤ n
    · rw [if_pos h]
      refine rootFrom_is n todo _ h ?_
      rw [Nat.add_assoc, show 2 ^ todo + 2 ^ todo = 2 ^ (todo + 1) by rw [Nat.pow_succ]; omega]
      exact h2
    · rw [if_neg h]
      exact rootFrom_is n todo _ h1 (by omega)

theorem isqrt_is (n : Nat) (h0 : n ≠ 0) : ∃ w, Datum.rootFrom n (n.log2 / 2 + 1) 0 = w ∧ w * w ≤ n ∧ n < (w + 1) * (w + 1) := by
  refine ⟨_, rfl, rootFrom_is n _ 0 (by omega) ?_⟩
  rw [Nat.zero_add, ← Nat.pow_add]
  have l2 := Nat.lt_log2_self (n := n)
  exact Nat.lt_of_lt_of_le l2 (Nat.pow_le_pow_right (by omega) (by omega))

theorem isV_sqrt {x V : Nat} (hx : IsV x V) (v1 : 2 ^ 1060 ≤ V) (v2 : V < 2 ^ 1088) : ∃ r U, double.sqrt x = some r ∧ IsV r U ∧ Near 770 (U * U) (V * TT) := by
  obtain ⟨m, k, r1, m0, m1, k1, eV, a1, a2, a3⟩ := hx.parts v1 v2
  clear v1 v2
  have lm1 := Nat.log2_self_le (show m ≠ 0 by omega)
  have lm2 := Nat.lt_log2_self (n := m)
  have hfb : double.fractionBits = 52 := rfl
  obtain ⟨m0', hm0'⟩ : ∃ m0', 2 * (double.fractionBits + 2) - m.log2 = m0' := ⟨_, rfl⟩
  have hm0'' : m0' + m.log2 = 108 := by omega
  obtain ⟨p, hp⟩ : ∃ p : Nat, ((-(k : Int) - (m0' : Int)) % 2).toNat = p := ⟨_, rfl⟩
  have hp2 : p ≤ 1 := by omega
  obtain ⟨more, hmore⟩ : ∃ more, m0' + p = more := ⟨_, rfl⟩
  obtain ⟨h, hh⟩ : ∃ h, k + more = 2 * h := ⟨(k + more) / 2, by omega⟩
  have hplace : (-(k : Int) - (more : Int)) / 2 - 1 = -((h + 1 : Nat) : Int) := by omega
  obtain ⟨n, hn⟩ : ∃ n, m * 2 ^ more = n := ⟨_, rfl⟩
  have n1 : 2 ^ 108 ≤ n := by
    rw [← hn]
    refine Nat.le_trans ?_ (Nat.mul_le_mul_right _ lm1)
    rw [← Nat.pow_add]
    exact Nat.pow_le_pow_right (by omega) (by omega)
  have n2 : n < 2 ^ 110 := by
    rw [← hn]
    refine Nat.lt_of_lt_of_le (Nat.mul_lt_mul_of_pos_right lm2 (Nat.two_pow_pos _)) ?_
    rw [← Nat.pow_add]
    exact Nat.pow_le_pow_right (by omega) (by omega)
  have n0 : n ≠ 0 := by have := Nat.two_pow_pos 108; omega
  obtain ⟨wh, hwh, w1, w2⟩ := isqrt_is n n0
  have wl : 2 ^ 54 ≤ wh := by
    apply Decidable.byContradiction
    intro hc
    have h3 : (wh + 1) * (wh + 1) ≤ 2 ^ 54 * 2 ^ 54 := Nat.mul_le_mul (by omega) (by omega)
    rw [← Nat.pow_add] at h3
    omega
  have wu : wh < 2 ^ 55 := by
    apply Decidable.byContradiction
    intro hc
    have h3 : 2 ^ 55 * 2 ^ 55 ≤ wh * wh := Nat.mul_le_mul (by omega) (by omega)
    rw [← Nat.pow_add] at h3
    omega
  obtain ⟨st, hst⟩ : ∃ st : Nat, (wh * wh != n).toNat = st := ⟨_, rfl⟩
  have hst2 : st ≤ 1 := by rw [← hst]; exact Bool.toNat_le _
  obtain ⟨mag, hmag⟩ : ∃ mag, 2 * wh + st = mag := ⟨_, rfl⟩
  have g0 : 0 < mag := by have := Nat.two_pow_pos 54; omega
  have g1 : 2 ^ 55 ≤ mag := by
    have : (2 : Nat) ^ 55 = 2 * 2 ^ 54 := by decide
    omega
  have g2 : mag < 2 ^ 57 := by
    have : (2 : Nat) ^ 57 = 4 * 2 ^ 55 := by decide
    omega
  have gl1 := le_log2' (by omega) g1
  have gl2 := log2_lt' (by omega) g2
  have hq : Near 256 (mag * mag) (4 * n) := root_near w1 w2 wl (by omega) (by omega)
  obtain ⟨m', k', r3, m3, k3, hN⟩ := rounded (s := false) g0 (K := h + 1) (by omega) (by omega)
  refine ⟨double.nearest false mag (-((h + 1 : Nat) : Int)), m' * 2 ^ (1074 - k'), ?_, ⟨m', k', r3, m3, k3, rfl⟩, ?_⟩
  · unfold Format.sqrt
    rw [r1]
    show (Datum.root (double.fractionBits + 2) (.number false m (-(k : Int)))).map double.write = _
    unfold Datum.root
    simp only [hm0', hp, hmore, Nat.shiftLeft_eq, hn, hwh, hst, hmag, hplace]
    rw [if_neg (by omega)]
    rfl
  · generalize hU : m' * 2 ^ (1074 - k') = U at *
    have h3 : Near 770 (U * 2 ^ (h + 1) * (U * 2 ^ (h + 1))) (4 * n * (TT * TT)) := by
      have h4 := hN.mul hN (by decide)
      rw [show mag * TT * (mag * TT) = mag * mag * (TT * TT) by rw [Nat.mul_mul_mul_comm]] at h4
      exact (h4.trans (hq.times (TT * TT)) (by decide)).mono (by omega)
    refine Near.cancel (C := 2 ^ (more + 2) * TT) ?_ (Nat.mul_pos (Nat.two_pow_pos _) TT_pos)
    have h6 := h3.times (2 ^ (1074 - k))
    have e1 : U * 2 ^ (h + 1) * (U * 2 ^ (h + 1)) * 2 ^ (1074 - k) = U * U * (2 ^ (more + 2) * TT) := by
      have e2 : 2 ^ (h + 1) * 2 ^ (h + 1) = 2 ^ k * 2 ^ (more + 2) := by rw [← Nat.pow_add, ← Nat.pow_add]; congr 1; omega
      rw [TT_k k1, Nat.mul_mul_mul_comm, e2]
      generalize 2 ^ (1074 - k) = A
      generalize 2 ^ (more + 2) = B
      generalize 2 ^ k = C
      ac_rfl
    have e3 : 4 * n * (TT * TT) * 2 ^ (1074 - k) = V * TT * (2 ^ (more + 2) * TT) := by
      rw [eV, ← hn, Nat.pow_add 2 more 2]
      generalize 2 ^ (1074 - k) = A
      generalize 2 ^ more = B
      generalize TT = C
      rw [show (2 : Nat) ^ 2 = 4 by rfl]
      ac_rfl
    rw [e1, e3] at h6
    exact h6

end Go.Proofs.Qxb6003682a

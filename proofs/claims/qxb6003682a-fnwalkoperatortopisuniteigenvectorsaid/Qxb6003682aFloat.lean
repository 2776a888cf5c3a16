import Derived.Laws.FloatArith
namespace Go.Proofs.Qxb6003682a
open Ieee
set_option linter.unusedVariables false

theorem log2_mul_pow (A K : Nat) (h : 0 < A) : (A * 2 ^ K).log2 = A.log2 + K := by
  have hA : A ≠ 0 := by omega
  have h1 := Nat.log2_self_le hA
  have h2 := Nat.lt_log2_self (n := A)
  have hp : A * 2 ^ K ≠ 0 := Nat.mul_ne_zero hA (Nat.ne_of_gt (Nat.two_pow_pos K))
  apply Nat.le_antisymm
  · have : (A * 2 ^ K).log2 < A.log2 + 1 + K := by
      rw [Nat.log2_lt hp, Nat.pow_add]
      exact Nat.mul_lt_mul_of_pos_right h2 (Nat.two_pow_pos K)
    omega
  · rw [Nat.le_log2 hp, Nat.pow_add]
    exact Nat.mul_le_mul_right _ h1

theorem cut_exact (s : Bool) (q d : Nat) (hq : 0 < q) : Toward.even.cut s (q * 2 ^ d) d = q := by
  have hl : (q * 2 ^ d).log2 = q.log2 + d := log2_mul_pow q d hq
  unfold Toward.cut
  have hm : min d ((q * 2 ^ d).log2 + 2) = d := by omega
  simp only [hm, Nat.one_shiftLeft]
  have e1 : q * 2 ^ d / 2 ^ d = q := Nat.mul_div_cancel _ (Nat.two_pow_pos d)
  have e2 : q * 2 ^ d % 2 ^ d = 0 := Nat.mul_mod_left _ _
  have hp := Nat.two_pow_pos d
  rw [e1, e2]
  have e3 : ¬ (2 ^ d < 2 * 0) := by omega
  have e4 : (2 ^ d == 2 * 0) = false := by simp
  simp

/-- the rung of 'kept' at 'L' places behind the point, read back -/
theorem read_word (s : Bool) (kept L : Nat) (h1 : 2 ^ 52 ≤ kept) (h2 : kept < 2 ^ 53) (hL : L ≤ 1074) : double.read (double.word s ((1074 - L) * 2 ^ 52 + kept)) = .number s kept (-(L : Int)) := by
  have hb : double.binade = 4503599627370496 := by rfl
  have hw : double.signWeight = 9223372036854775808 := by rfl
  have hi : double.infRung = 9218868437227405312 := by rfl
  have hp : double.leastPlace = -1074 := by rfl
  have p52 : (2 : Nat) ^ 52 = 4503599627370496 := by decide
  have p53 : (2 : Nat) ^ 53 = 9007199254740992 := by decide
  rw [p52] at h1
  rw [p53] at h2
  generalize hr : (1074 - L) * 2 ^ 52 + kept = r
  rw [p52] at hr
  have r1 : r < 9218868437227405312 := by omega
  have r2 : r / 4503599627370496 = 1074 - L + 1 := by omega
  have r3 : r % 4503599627370496 = kept - 4503599627370496 := by omega
  have r4 : ¬ r < 4503599627370496 := by omega
  unfold Format.read
  have n1 : (double.word s r / double.signWeight % 2 == 1) = s := by
    unfold Format.word
    rw [hw]
    cases s
    · simp; omega
    · simp; omega
  have n2 : double.word s r % double.signWeight = r := by
    unfold Format.word
    rw [hw]
    cases s
    · simp; omega
    · simp; omega
  simp only [n1, n2, hb, hi, hp]
  rw [if_neg r4, if_pos r1, r2, r3]
  have e1 : 4503599627370496 + (kept - 4503599627370496) = kept := by omega
  have e2 : (-1074 : Int) + ((1074 - L + 1 - 1 : Nat) : Int) = -(L : Int) := by omega
  rw [e1, e2]

/-- a whole number below 2^53, however written, is written exactly -/
theorem nearest_exact (s : Bool) (A K : Nat) (hA : A < 2 ^ 53) : ∃ m k : Nat, double.read (double.nearest s (A * 2 ^ K) (-(K : Int))) = .number s m (-(k : Int)) ∧ m = A * 2 ^ k := by
  have hp : double.leastPlace = -1074 := by rfl
  have hf : double.fractionBits = 52 := by rfl
  by_cases h0 : A = 0
  · subst h0
    obtain ⟨k, hk⟩ : ∃ k : Nat, k = 1074 := ⟨_, rfl⟩
    refine ⟨0, k, ?_, (Nat.zero_mul _).symm⟩
    rw [Nat.zero_mul, hk]
    unfold Format.nearest
    rw [if_pos rfl]
    cases s
    · decide
    · decide
  · have hA0 : 0 < A := by omega
    have hl : A.log2 ≤ 52 := by
      have : A.log2 < 53 := (Nat.log2_lt h0).2 hA
      omega
    have hM : A * 2 ^ K ≠ 0 := Nat.mul_ne_zero h0 (Nat.ne_of_gt (Nat.two_pow_pos K))
    have hlog := log2_mul_pow A K hA0
    generalize hL : 52 - A.log2 = L
    have hlast : max (-(K : Int) + ((A * 2 ^ K).log2 : Nat) - (double.fractionBits : Nat)) double.leastPlace = -(L : Int) := by
      rw [hlog, hf, hp]
      omega
    have hk1 : 2 ^ 52 ≤ A * 2 ^ L := by
      have h1 := Nat.log2_self_le h0
      have : 2 ^ 52 = 2 ^ A.log2 * 2 ^ L := by rw [← Nat.pow_add]; congr 1; omega
      rw [this]
      exact Nat.mul_le_mul_right _ h1
    have hk2 : A * 2 ^ L < 2 ^ 53 := by
      have h1 := Nat.lt_log2_self (n := A)
      have : 2 ^ 53 = 2 ^ (A.log2 + 1) * 2 ^ L := by rw [← Nat.pow_add]; congr 1; omega
      rw [this]
      exact Nat.mul_lt_mul_of_pos_right h1 (Nat.two_pow_pos _)
    refine ⟨A * 2 ^ L, L, ?_, rfl⟩
    have hkept : Toward.even.cut s ((A * 2 ^ K) <<< (-(K : Int) - -(L : Int)).toNat) (-(L : Int) - -(K : Int)).toNat = A * 2 ^ L := by
      by_cases hKL : K ≤ L
      · have e1 : (-(K : Int) - -(L : Int)).toNat = L - K := by omega
        have e2 : (-(L : Int) - -(K : Int)).toNat = 0 := by omega
        rw [e1, e2, Nat.shiftLeft_eq, Nat.mul_assoc, ← Nat.pow_add, show K + (L - K) = L by omega]
        have := cut_exact s (A * 2 ^ L) 0 (by have := Nat.two_pow_pos 52; omega)
        rwa [Nat.pow_zero, Nat.mul_one] at this
      · have e1 : (-(K : Int) - -(L : Int)).toNat = 0 := by omega
        have e2 : (-(L : Int) - -(K : Int)).toNat = K - L := by omega
        rw [e1, e2, Nat.shiftLeft_zero]
        have : A * 2 ^ K = (A * 2 ^ L) * 2 ^ (K - L) := by rw [Nat.mul_assoc, ← Nat.pow_add, show L + (K - L) = K by omega]
        rw [this]
        exact cut_exact s (A * 2 ^ L) (K - L) (by have := Nat.two_pow_pos 52; omega)
    unfold Format.nearest
    rw [if_neg hM]
    simp only [hlast, hkept]
    have hb : double.binade = 2 ^ 52 := by rfl
    have e3 : (-(L : Int) - double.leastPlace).toNat = 1074 - L := by rw [hp]; omega
    have hi : double.infRung = 9218868437227405312 := by rfl
    have p52 : (2 : Nat) ^ 52 = 4503599627370496 := by decide
    have p53 : (2 : Nat) ^ 53 = 9007199254740992 := by decide
    rw [e3, hb, Nat.min_eq_left (by rw [hi]; rw [p53] at hk2; rw [p52]; omega)]
    exact read_word s (A * 2 ^ L) L hk1 hk2 (by omega)

/-- the word x stands for the whole number n -/
def IsI (x : Nat) (n : Int) : Prop := ∃ (s : Bool) (m k : Nat), double.read x = .number s m (-(k : Int)) ∧ signed s m 0 = n * 2 ^ k

theorem signed_up (s : Bool) (m u : Nat) : signed s m u = signed s m 0 * 2 ^ u := by
  unfold signed
  cases s
  · simp [Nat.shiftLeft_eq]
  · simp [Nat.shiftLeft_eq, Int.neg_mul]
theorem abs_signed (s : Bool) (m : Nat) : (signed s m 0).natAbs = m := by
  unfold signed
  cases s <;> simp

/-- a number whose value is whole and small is written exactly -/
theorem write_isI (s : Bool) (M K : Nat) (n : Int) (hn : n.natAbs < 2 ^ 53) (hM : M = n.natAbs * 2 ^ K) (hs : n ≠ 0 → s = decide (n < 0)) : IsI (double.nearest s M (-(K : Int))) n := by
  obtain ⟨m, k, hr, hm⟩ := nearest_exact s n.natAbs K hn
  rw [hM]
  refine ⟨s, m, k, hr, ?_⟩
  rw [hm]
  by_cases h0 : n = 0
  · subst h0
    unfold signed
    cases s <;> simp
  · have := hs h0
    subst this
    unfold signed
    by_cases hlt : n < 0
    · simp only [hlt, decide_true, if_true, Nat.shiftLeft_zero, Int.natCast_mul, Int.natCast_pow]
      rw [← Int.neg_mul]
      congr 1
      omega
    · simp only [hlt, decide_false, Nat.shiftLeft_zero, Int.natCast_mul, Int.natCast_pow]
      show (n.natAbs : Int) * _ = _
      congr 1
      omega

/-- float64(n) -/
theorem isI_ofInt (n : Int) (hn : n.natAbs < 2 ^ 53) : IsI (FloatKind.f64.nearest n) n := by
  show IsI (double.nearest (decide (n < 0)) n.natAbs 0) n
  exact write_isI _ _ 0 n hn (by simp) (fun _ => rfl)

theorem pos_pow (k : Nat) : (0 : Int) < 2 ^ k := Int.pow_pos (by decide)

theorem sign_of {s : Bool} {m k : Nat} {n : Int} (h : signed s m 0 = n * 2 ^ k) (h0 : n ≠ 0) : s = decide (n < 0) := by
  have hp := pos_pow k
  unfold signed at h
  rcases Int.lt_or_gt_of_ne h0 with hn | hn
  · have : n * 2 ^ k < 0 := Int.mul_neg_of_neg_of_pos hn hp
    cases s
    · simp at h; omega
    · simp [hn]
  · have : 0 < n * 2 ^ k := Int.mul_pos hn hp
    cases s
    · simp; omega
    · simp at h; omega

/-- x * y -/
theorem isI_mul {x y : Nat} {a b : Int} (hx : IsI x a) (hy : IsI y b) (hn : (a * b).natAbs < 2 ^ 53) : ∃ r, double.mul x y = some r ∧ IsI r (a * b) := by
  obtain ⟨s, m, k, r1, e1⟩ := hx
  obtain ⟨t, n, l, r2, e2⟩ := hy
  refine ⟨_, by unfold Format.mul; rw [r1, r2]; rfl, ?_⟩
  have hp : (-(k : Int) + -(l : Int)) = -((k + l : Nat) : Int) := by omega
  show IsI (double.nearest (s ^^ t) (m * n) (-(k : Int) + -(l : Int))) (a * b)
  rw [hp]
  have ea : m = a.natAbs * 2 ^ k := by
    have := congrArg Int.natAbs e1
    rw [abs_signed, Int.natAbs_mul, Int.natAbs_pow] at this
    exact this
  have eb : n = b.natAbs * 2 ^ l := by
    have := congrArg Int.natAbs e2
    rw [abs_signed, Int.natAbs_mul, Int.natAbs_pow] at this
    exact this
  refine write_isI _ _ (k + l) _ hn ?_ ?_
  · rw [ea, eb, Int.natAbs_mul, Nat.pow_add]
    simp only [Nat.mul_assoc, Nat.mul_left_comm]
  · intro h0
    have ha : a ≠ 0 := fun e => h0 (by rw [e, Int.zero_mul])
    have hb : b ≠ 0 := fun e => h0 (by rw [e, Int.mul_zero])
    rw [sign_of e1 ha, sign_of e2 hb]
    rcases Int.lt_or_gt_of_ne ha with h1 | h1 <;> rcases Int.lt_or_gt_of_ne hb with h2 | h2
    · have := Int.mul_pos_of_neg_of_neg h1 h2
      have h3 : ¬ a * b < 0 := by omega
      simp [h1, h2, h3]
    · have := Int.mul_neg_of_neg_of_pos h1 h2
      have h3 : ¬ b < 0 := by omega
      simp [h1, h3, this]
    · have := Int.mul_neg_of_pos_of_neg h1 h2
      have h3 : ¬ a < 0 := by omega
      simp [h2, h3, this]
    · have := Int.mul_pos h1 h2
      have h3 : ¬ a * b < 0 := by omega
      have h4 : ¬ a < 0 := by omega
      have h5 : ¬ b < 0 := by omega
      simp [h3, h4, h5]

/-- x + y -/
theorem isI_add {x y : Nat} {a b : Int} (hx : IsI x a) (hy : IsI y b) (hn : (a + b).natAbs < 2 ^ 53) : ∃ r, double.add x y = some r ∧ IsI r (a + b) := by
  obtain ⟨s, m, k, r1, e1⟩ := hx
  obtain ⟨t, n, l, r2, e2⟩ := hy
  refine ⟨_, by unfold Format.add; rw [r1, r2]; rfl, ?_⟩
  have hb : min (-(k : Int)) (-(l : Int)) = -((max k l : Nat) : Int) := by omega
  have hk : (-(k : Int) - -((max k l : Nat) : Int)).toNat = max k l - k := by omega
  have hl : (-(l : Int) - -((max k l : Nat) : Int)).toNat = max k l - l := by omega
  show IsI (double.nearest _ (signed s m (-(k : Int) - min (-(k : Int)) (-(l : Int))).toNat + signed t n (-(l : Int) - min (-(k : Int)) (-(l : Int))).toNat).natAbs (min (-(k : Int)) (-(l : Int)))) (a + b)
  rw [hb, hk, hl]
  have tot : signed s m (max k l - k) + signed t n (max k l - l) = (a + b) * 2 ^ (max k l) := by
    rw [signed_up s m, signed_up t n, e1, e2, Int.mul_assoc, Int.mul_assoc, ← Int.pow_add, ← Int.pow_add, show k + (max k l - k) = max k l by omega, show l + (max k l - l) = max k l by omega, Int.add_mul]
  rw [tot]
  have hp := pos_pow (max k l)
  refine write_isI _ _ (max k l) _ hn (by rw [Int.natAbs_mul, Int.natAbs_pow]; rfl) ?_
  intro h0
  have h1 : ¬ (a + b) * 2 ^ (max k l) = 0 := fun e => by
    rcases Int.mul_eq_zero.1 e with h | h
    · exact h0 h
    · omega
  rw [if_neg h1]
  rcases Int.lt_or_gt_of_ne h0 with h | h
  · have := Int.mul_neg_of_neg_of_pos h hp
    simp [h, this]
  · have := Int.mul_pos h hp
    have h2 : ¬ (a + b) * 2 ^ (max k l) < 0 := by omega
    have h3 : ¬ (a + b) < 0 := by omega
    simp [h2, h3]

/-- x == y -/
theorem isI_eq {x y : Nat} {a : Int} (hx : IsI x a) (hy : IsI y a) : double.order x y = some .eq := by
  obtain ⟨s, m, k, r1, e1⟩ := hx
  obtain ⟨t, n, l, r2, e2⟩ := hy
  unfold Format.order
  rw [r1, r2]
  have hb : min (-(k : Int)) (-(l : Int)) = -((max k l : Nat) : Int) := by omega
  have hk : (-(k : Int) - -((max k l : Nat) : Int)).toNat = max k l - k := by omega
  have hl : (-(l : Int) - -((max k l : Nat) : Int)).toNat = max k l - l := by omega
  show some (compare (signed s m (-(k : Int) - min (-(k : Int)) (-(l : Int))).toNat) (signed t n (-(l : Int) - min (-(k : Int)) (-(l : Int))).toNat)) = _
  rw [hb, hk, hl]
  have t1 : signed s m (max k l - k) = a * 2 ^ (max k l) := by
    rw [signed_up s m, e1, Int.mul_assoc, ← Int.pow_add, show k + (max k l - k) = max k l by omega]
  have t2 : signed t n (max k l - l) = a * 2 ^ (max k l) := by
    rw [signed_up t n, e2, Int.mul_assoc, ← Int.pow_add, show l + (max k l - l) = max k l by omega]
  rw [t1, t2]
  simp

end Go.Proofs.Qxb6003682a

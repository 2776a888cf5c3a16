/- plain counting: no Go in sight -/
namespace Go.Proofs.Qxb6003672a
set_option linter.unusedVariables false

/-- how many of the first k keys are u -/
def cn (key : Nat → Nat) (u : Nat) : Nat → Nat
  | 0 => 0
  | k + 1 => cn key u k + (if key k = u then 1 else 0)
/-- how many of the first k keys are below u -/
def lo (key : Nat → Nat) (u : Nat) : Nat → Nat
  | 0 => 0
  | k + 1 => lo key u k + (if key k < u then 1 else 0)

theorem cn_le (key : Nat → Nat) (u : Nat) : ∀ k, cn key u k ≤ k
  | 0 => Nat.le_refl _
  | k + 1 => by have := cn_le key u k; unfold cn; split <;> omega
theorem lo_le (key : Nat → Nat) (u : Nat) : ∀ k, lo key u k ≤ k
  | 0 => Nat.le_refl _
  | k + 1 => by have := lo_le key u k; unfold lo; split <;> omega
theorem lo_zero (key : Nat → Nat) : ∀ k, lo key 0 k = 0
  | 0 => rfl
  | k + 1 => by have := lo_zero key k; unfold lo; simp [this]
theorem lo_succ (key : Nat → Nat) (u : Nat) : ∀ k, lo key (u + 1) k = lo key u k + cn key u k
  | 0 => rfl
  | k + 1 => by
    have := lo_succ key u k
    unfold lo cn
    rw [this]
    split <;> split <;> split <;> omega
theorem lo_all (key : Nat → Nat) (n : Nat) : ∀ k, (∀ i, i < k → key i < n) → lo key n k = k
  | 0, _ => rfl
  | k + 1, h => by
    have := lo_all key n k (fun i hi => h i (by omega))
    unfold lo
    rw [this, if_pos (h k (by omega))]
theorem cn_mono (key : Nat → Nat) (u : Nat) (i : Nat) : ∀ d, cn key u i ≤ cn key u (i + d)
  | 0 => Nat.le_refl _
  | d + 1 => by have := cn_mono key u i d; show _ ≤ cn key u (i + d) + (if key (i + d) = u then 1 else 0); omega
theorem cn_lt (key : Nat → Nat) (i m : Nat) (h : i < m) : cn key (key i) i < cn key (key i) m := by
  have h1 : cn key (key i) (i + 1) = cn key (key i) i + 1 := by show cn key (key i) i + _ = _; simp
  have h2 := cn_mono key (key i) (i + 1) (m - (i + 1))
  rw [show i + 1 + (m - (i + 1)) = m by omega] at h2
  omega
theorem lo_mono (key : Nat → Nat) (m u : Nat) : ∀ d, lo key u m ≤ lo key (u + d) m
  | 0 => Nat.le_refl _
  | d + 1 => by have := lo_mono key m u d; have h := lo_succ key (u + d) m; show _ ≤ lo key (u + d + 1) m; omega

/-- where the i-th of m goes -/
def pos (key : Nat → Nat) (m i : Nat) : Nat := lo key (key i) m + cn key (key i) i
theorem pos_hi (key : Nat → Nat) (m i : Nat) (h : i < m) : pos key m i < lo key (key i + 1) m := by
  have := cn_lt key i m h
  rw [lo_succ]
  unfold pos
  omega
theorem pos_lt (key : Nat → Nat) (m i : Nat) (h : i < m) : pos key m i < m := by
  have h1 := pos_hi key m i h
  have h2 := lo_le key (key i + 1) m
  omega
theorem pos_inj (key : Nat → Nat) (m i j : Nat) (hi : i < j) (hj : j < m) : pos key m i ≠ pos key m j := by
  intro e
  by_cases hk : key i = key j
  · have h1 := cn_lt key i j hi
    unfold pos at e
    rw [hk] at e h1
    omega
  · have a1 := pos_hi key m i (by omega)
    have a2 := pos_hi key m j hj
    have b1 : lo key (key i) m ≤ pos key m i := by unfold pos; omega
    have b2 : lo key (key j) m ≤ pos key m j := by unfold pos; omega
    rcases Nat.lt_or_gt_of_ne hk with h | h
    · have := lo_mono key m (key i + 1) (key j - (key i + 1))
      rw [show key i + 1 + (key j - (key i + 1)) = key j by omega] at this
      omega
    · have := lo_mono key m (key j + 1) (key i - (key j + 1))
      rw [show key j + 1 + (key i - (key j + 1)) = key i by omega] at this
      omega

/-- a list by its index -/
def tab (len : Nat) (f : Nat → Int) : List Int := (List.range len).map f
theorem tab_len (len : Nat) (f : Nat → Int) : (tab len f).length = len := by simp [tab]
theorem tab_get (len : Nat) (f : Nat → Int) (j : Nat) (h : j < len) : (tab len f).getD j 0 = f j := by simp [tab, List.getD, h]
theorem tab_ext (len : Nat) (f g : Nat → Int) (h : ∀ j, j < len → f j = g j) : tab len f = tab len g := by
  unfold tab
  apply List.map_congr_left
  intro j hj
  exact h j (by simpa using hj)
theorem tab_set (len : Nat) (f g : Nat → Int) (j : Nat) (y : Int) (h : ∀ i, i < len → g i = if i = j then y else f i) : (tab len f).set j y = tab len g := by
  apply List.ext_getElem
  · simp [tab]
  · intro i h1 h2
    simp only [tab, List.length_set, List.length_map, List.length_range] at h1
    simp only [List.getElem_set, tab, List.getElem_map, List.getElem_range]
    rw [h i h1]
    by_cases e : j = i
    · simp [e]
    · simp [e, Ne.symm e]
theorem tab_zero (len : Nat) : List.replicate len (0 : Int) = tab len (fun _ => 0) := by
  apply List.ext_getElem <;> simp [tab]
theorem tab_of (l : List Int) : l = tab l.length (fun j => l.getD j 0) := by
  apply List.ext_getElem
  · simp [tab]
  · intro i h1 h2
    simp [tab, List.getD, h1]

/-- the firsts' table after k keys are counted -/
def F1 (key : Nat → Nat) (k : Nat) (j : Nat) : Int := if j = 0 then 0 else (cn key (j - 1) k : Int)
theorem F1_step (key : Nat → Nat) (len k : Nat) : (tab len (F1 key k)).set (key k + 1) (F1 key k (key k + 1) + 1) = tab len (F1 key (k + 1)) := by
  refine tab_set _ _ _ _ _ fun i hi => ?_
  unfold F1
  by_cases h0 : i = 0
  · simp [h0]
  · simp only [h0, if_false]
    show ((cn key (i - 1) k + (if key k = i - 1 then 1 else 0) : Nat) : Int) = _
    by_cases e : i = key k + 1
    · subst e; simp
    · have : ¬ key k = i - 1 := by omega
      simp [e, this]
theorem F1_bd (key : Nat → Nat) (k j : Nat) : 0 ≤ F1 key k j ∧ F1 key k j ≤ k := by
  have := cn_le key (j - 1) k
  unfold F1
  split <;> omega
theorem F1_zero (key : Nat → Nat) (len : Nat) : List.replicate len (0 : Int) = tab len (F1 key 0) := by
  rw [tab_zero]
  refine tab_ext _ _ _ fun j _ => ?_
  unfold F1 cn
  split <;> rfl

/-- the table after v sums -/
def F2 (key : Nat → Nat) (m v : Nat) (j : Nat) : Int := if j ≤ v then (lo key j m : Int) else (cn key (j - 1) m : Int)
theorem F2_zero (key : Nat → Nat) (m len : Nat) : tab len (F1 key m) = tab len (F2 key m 0) := by
  refine tab_ext _ _ _ fun j _ => ?_
  unfold F1 F2
  by_cases h : j = 0
  · subst h; simp [lo_zero]
  · have : ¬ j ≤ 0 := by omega
    simp [h]
theorem F2_at (key : Nat → Nat) (m v : Nat) : F2 key m v (v + 1) = cn key v m ∧ F2 key m v v = lo key v m := by
  unfold F2
  refine ⟨?_, by simp⟩
  rw [if_neg (by omega)]
  simp
theorem F2_step (key : Nat → Nat) (m len v : Nat) : (tab len (F2 key m v)).set (v + 1) (F2 key m v (v + 1) + F2 key m v v) = tab len (F2 key m (v + 1)) := by
  have ha := F2_at key m v
  refine tab_set _ _ _ _ _ fun i hi => ?_
  rw [ha.1, ha.2]
  unfold F2
  by_cases e : i = v + 1
  · subst e
    have := lo_succ key v m
    rw [if_pos (Nat.le_refl _), if_pos rfl, this]
    omega
  · rw [if_neg e]
    by_cases h : i ≤ v
    · rw [if_pos h, if_pos (by omega)]
    · rw [if_neg h, if_neg (by omega)]
theorem F2_bd (key : Nat → Nat) (m v j : Nat) : 0 ≤ F2 key m v j ∧ F2 key m v j ≤ m := by
  have := cn_le key (j - 1) m
  have := lo_le key j m
  unfold F2
  split <;> omega
theorem F2_end (key : Nat → Nat) (m n : Nat) : tab (n + 1) (F2 key m n) = tab (n + 1) (fun j => (lo key j m : Int)) := by
  refine tab_ext _ _ _ fun j hj => ?_
  unfold F2
  rw [if_pos (by omega)]

/-- the two running tables, one behind the other, after k waits -/
def N3 (k1 k2 : Nat → Nat) (n m k : Nat) (j : Nat) : Int := if j < n then ((lo k1 j m + cn k1 j k : Nat) : Int) else ((lo k2 (j - n) m + cn k2 (j - n) k : Nat) : Int)
theorem N3_zero (k1 k2 : Nat → Nat) (n m : Nat) : (tab (n + 1) (fun j => (lo k1 j m : Int))).take n ++ (tab (n + 1) (fun j => (lo k2 j m : Int))).take n = tab (n + n) (N3 k1 k2 n m 0) := by
  apply List.ext_getElem
  · simp [tab]
  · intro i h1 h2
    simp [tab] at h2
    by_cases h : i < n
    · rw [List.getElem_append_left (by simp [tab]; omega)]
      simp [tab, N3, h, cn]
    · rw [List.getElem_append_right (by simp [tab]; omega)]
      simp [tab, N3, h, cn]
theorem N3_at1 (k1 k2 : Nat → Nat) (n m k : Nat) (h : k1 k < n) : N3 k1 k2 n m k (k1 k) = (pos k1 m k : Nat) := by
  unfold N3 pos; rw [if_pos h]
theorem N3_at2 (k1 k2 : Nat → Nat) (n m k : Nat) : N3 k1 k2 n m k (n + k2 k) = (pos k2 m k : Nat) := by
  unfold N3 pos; rw [if_neg (by omega), Nat.add_sub_cancel_left]
theorem N3_step (k1 k2 : Nat → Nat) (n m k : Nat) (h1 : k1 k < n) (h2 : k2 k < n) :
    ((tab (n + n) (N3 k1 k2 n m k)).set (k1 k) ((pos k1 m k : Nat) + 1)).set (n + k2 k) ((pos k2 m k : Nat) + 1) = tab (n + n) (N3 k1 k2 n m (k + 1)) := by
  rw [tab_set (n + n) (N3 k1 k2 n m k) (fun i => if i = k1 k then ((pos k1 m k : Nat) + 1 : Int) else N3 k1 k2 n m k i) _ _ (fun i _ => rfl)]
  refine tab_set _ _ _ _ _ fun i hi => ?_
  have c1 : cn k1 i (k + 1) = cn k1 i k + (if k1 k = i then 1 else 0) := rfl
  have c2 : cn k2 (i - n) (k + 1) = cn k2 (i - n) k + (if k2 k = i - n then 1 else 0) := rfl
  by_cases a : i < n
  · rw [if_neg (by omega)]
    by_cases e : i = k1 k
    · subst e
      unfold N3 pos
      rw [if_pos rfl, if_pos a, c1, if_pos rfl]
      omega
    · rw [if_neg e]
      unfold N3
      rw [if_pos a, if_pos a, c1, if_neg (fun h => e h.symm)]
      omega
  · by_cases e : i = n + k2 k
    · rw [if_pos e]
      unfold N3 pos
      rw [if_neg a, c2, if_pos (by omega), show i - n = k2 k by omega]
      omega
    · rw [if_neg e, if_neg (by omega)]
      unfold N3
      rw [if_neg a, if_neg a, c2, if_neg (by omega)]
      omega

/-- what a table filled at the places 'pos' holds so far -/
def Filled (key : Nat → Nat) (m : Nat) (val : Nat → Int) (k : Nat) (l : List Int) : Prop := l.length = m ∧ ∀ i, i < k → l.getD (pos key m i) 0 = val i
theorem Filled.step {key : Nat → Nat} {m : Nat} {val : Nat → Int} {k : Nat} {l : List Int} (h : Filled key m val k l) (hk : k < m) : Filled key m val (k + 1) (l.set (pos key m k) (val k)) := by
  refine ⟨by simpa using h.1, fun i hi => ?_⟩
  have hp := pos_lt key m k hk
  have hl := h.1
  by_cases e : i = k
  · subst e
    simp [List.getD, show pos key m i < l.length by omega]
  · have hne := pos_inj key m i k (by omega) hk
    have := h.2 i (by omega)
    simp only [List.getD, List.getElem?_set_ne (Ne.symm hne)] at this ⊢
    exact this

end Go.Proofs.Qxb6003672a

import Derived.Test.Qxb6003672aPlain
namespace Go.Proofs.Qxb6003672a
set_option linter.unusedVariables false

/-- the needs and ups after k requirements -/
def NK (u : Nat → Nat) (x : Nat → Int) (n k : Nat) (j : Nat) : Int := if j < n then (cn u j k : Int) else x (j - n)
def UK (u : Nat → Nat) (n : Nat) (j : Nat) : Int := if j < n then -1 else (u (j - n) : Int)
def GK (n k : Nat) (i : Nat) : Int := if i < k then (n : Int) + i else 0

theorem tab_snoc (len : Nat) (f : Nat → Int) (y : Int) (h : f len = y) : tab len f ++ [y] = tab (len + 1) f := by
  unfold tab
  rw [List.range_succ, List.map_append, List.map_singleton, h]
theorem NK_zero (u : Nat → Nat) (x : Nat → Int) (n : Nat) : List.replicate n (0 : Int) = tab (n + 0) (NK u x n 0) := by
  rw [tab_zero]
  refine tab_ext _ _ _ fun j hj => ?_
  unfold NK
  rw [if_pos (by omega)]
  rfl
theorem UK_zero (u : Nat → Nat) (n : Nat) : List.replicate n (-1 : Int) = tab (n + 0) (UK u n) := by
  apply List.ext_getElem
  · simp [tab]
  · intro i h1 h2
    simp at h1
    simp [tab, UK, h1]
theorem NK_succ_lt (u : Nat → Nat) (x : Nat → Int) (n k : Nat) (hu : u k < n) : (tab (n + k) (NK u x n k)).set (u k) ((tab (n + k) (NK u x n k)).getD (u k) 0 + 1) ++ [x k] = tab (n + (k + 1)) (NK u x n (k + 1)) := by
  have h1 : (tab (n + k) (NK u x n k)).set (u k) ((tab (n + k) (NK u x n k)).getD (u k) 0 + 1) = tab (n + k) (NK u x n (k + 1)) := by
    refine tab_set _ _ _ _ _ fun i hi => ?_
    rw [tab_get _ _ _ (by omega)]
    unfold NK
    have c : cn u i (k + 1) = cn u i k + (if u k = i then 1 else 0) := rfl
    by_cases a : i < n
    · rw [if_pos a, c, if_pos hu]
      by_cases e : i = u k
      · subst e; simp
      · rw [if_neg e, if_pos a, if_neg (fun h => e h.symm)]; simp
    · rw [if_neg a, if_neg (by omega), if_neg a]
  rw [h1]
  refine tab_snoc _ _ _ ?_
  unfold NK
  rw [if_neg (by omega), Nat.add_sub_cancel_left]
theorem NK_succ_ge (u : Nat → Nat) (x : Nat → Int) (n k : Nat) (hu : n ≤ u k) : tab (n + k) (NK u x n k) ++ [x k] = tab (n + (k + 1)) (NK u x n (k + 1)) := by
  have h1 : tab (n + k) (NK u x n k) = tab (n + k) (NK u x n (k + 1)) := by
    refine tab_ext _ _ _ fun i hi => ?_
    unfold NK
    have c : cn u i (k + 1) = cn u i k + (if u k = i then 1 else 0) := rfl
    by_cases a : i < n
    · rw [if_pos a, if_pos a, c, if_neg (by omega)]; rfl
    · rw [if_neg a, if_neg a]
  rw [h1]
  refine tab_snoc _ _ _ ?_
  unfold NK
  rw [if_neg (by omega), Nat.add_sub_cancel_left]
theorem UK_succ (u : Nat → Nat) (n k : Nat) : tab (n + k) (UK u n) ++ [(u k : Int)] = tab (n + (k + 1)) (UK u n) := by
  refine tab_snoc _ _ _ ?_
  unfold UK
  rw [if_neg (by omega), Nat.add_sub_cancel_left]
theorem GK_zero (n m : Nat) : List.replicate m (0 : Int) = tab m (GK n 0) := by
  rw [tab_zero]
  refine tab_ext _ _ _ fun j hj => ?_
  simp [GK]
theorem GK_succ (n m k : Nat) : (tab m (GK n k)).set k ((n + k : Nat) : Int) = tab m (GK n (k + 1)) := by
  refine tab_set _ _ _ _ _ fun i hi => ?_
  unfold GK
  by_cases e : i = k
  · subst e; rw [if_pos (by omega), if_pos rfl]; omega
  · rw [if_neg e]
    by_cases h : i < k
    · rw [if_pos h, if_pos (by omega)]
    · rw [if_neg h, if_neg (by omega)]
theorem NK_bd (u : Nat → Nat) (x : Nat → Int) (n k : Nat) (hu : u k < n) : 0 ≤ (tab (n + k) (NK u x n k)).getD (u k) 0 ∧ (tab (n + k) (NK u x n k)).getD (u k) 0 ≤ k := by
  rw [tab_get _ _ _ (by omega)]
  have := cn_le u (u k) k
  unfold NK
  rw [if_pos hu]
  omega

end Go.Proofs.Qxb6003672a

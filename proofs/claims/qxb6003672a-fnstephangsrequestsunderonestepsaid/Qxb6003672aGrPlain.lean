import Derived.Test.Qxb6003672aReqPlain
namespace Go.Proofs.Qxb6003672a
set_option linter.unusedVariables false

theorem cn_congr {k1 k2 : Nat → Nat} (u : Nat) : ∀ k, (∀ i, i < k → k1 i = k2 i) → cn k1 u k = cn k2 u k
  | 0, _ => rfl
  | k + 1, h => by
    show cn k1 u k + (if k1 k = u then 1 else 0) = cn k2 u k + (if k2 k = u then 1 else 0)
    rw [cn_congr u k (fun i hi => h i (by omega)), h k (by omega)]
theorem lo_congr {k1 k2 : Nat → Nat} (u : Nat) : ∀ k, (∀ i, i < k → k1 i = k2 i) → lo k1 u k = lo k2 u k
  | 0, _ => rfl
  | k + 1, h => by
    show lo k1 u k + (if k1 k < u then 1 else 0) = lo k2 u k + (if k2 k < u then 1 else 0)
    rw [lo_congr u k (fun i hi => h i (by omega)), h k (by omega)]
theorem pos_congr {k1 k2 : Nat → Nat} {m i : Nat} (h : ∀ i, i < m → k1 i = k2 i) (hi : i < m) : pos k1 m i = pos k2 m i := by
  unfold pos
  rw [h i hi, lo_congr _ m h, cn_congr _ i (fun j hj => h j (by omega))]
theorem Filled.congr {k1 k2 : Nat → Nat} {m : Nat} {v1 v2 : Nat → Int} {l : List Int} (h : Filled k1 m v1 m l) (hk : ∀ i, i < m → k1 i = k2 i) (hv : ∀ i, i < m → v1 i = v2 i) : Filled k2 m v2 m l :=
  ⟨h.1, fun i hi => by rw [← pos_congr hk hi, ← hv i hi]; exact h.2 i hi⟩
theorem tab_lo_congr {k1 k2 : Nat → Nat} (len m : Nat) (hk : ∀ i, i < m → k1 i = k2 i) : tab len (fun j => (lo k1 j m : Int)) = tab len (fun j => (lo k2 j m : Int)) :=
  tab_ext _ _ _ fun j _ => by rw [lo_congr j m hk]

/-- the needs after k waits -/
def CK (u : Nat → Nat) (k : Nat) (j : Nat) : Int := (cn u j k : Int)
theorem CK_zero (u : Nat → Nat) (n : Nat) : List.replicate n (0 : Int) = tab n (CK u 0) := by
  rw [tab_zero]; rfl
theorem CK_succ (u : Nat → Nat) (n k : Nat) (hu : u k < n) : (tab n (CK u k)).set (u k) ((tab n (CK u k)).getD (u k) 0 + 1) = tab n (CK u (k + 1)) := by
  refine tab_set _ _ _ _ _ fun i hi => ?_
  rw [tab_get _ _ _ hu]
  unfold CK
  have c : cn u i (k + 1) = cn u i k + (if u k = i then 1 else 0) := rfl
  rw [c]
  by_cases e : i = u k
  · subst e; simp
  · rw [if_neg e, if_neg (fun h => e h.symm)]; simp
theorem CK_bd (u : Nat → Nat) (n k : Nat) (hu : u k < n) : 0 ≤ (tab n (CK u k)).getD (u k) 0 ∧ (tab n (CK u k)).getD (u k) 0 ≤ k := by
  rw [tab_get _ _ _ hu]
  have := cn_le u (u k) k
  unfold CK
  omega

/-- the waits -/
def wl (us ts : List Int) (k : Nat) : List (Int × Int × Int) := (List.range k).map fun i => (us.getD i 0, ts.getD i 0, us.getD i 0)
theorem wl_len (us ts : List Int) (k : Nat) : (wl us ts k).length = k := by simp [wl]
theorem wl_succ (us ts : List Int) (k : Nat) : wl us ts (k + 1) = wl us ts k ++ [(us.getD k 0, ts.getD k 0, us.getD k 0)] := by
  unfold wl
  rw [List.range_succ, List.map_append, List.map_singleton]
theorem wl_get (us ts : List Int) (k i : Nat) (h : i < k) : (wl us ts k).getD i (0, 0, 0) = (us.getD i 0, ts.getD i 0, us.getD i 0) := by
  simp [wl, List.getD, h]

end Go.Proofs.Qxb6003672a

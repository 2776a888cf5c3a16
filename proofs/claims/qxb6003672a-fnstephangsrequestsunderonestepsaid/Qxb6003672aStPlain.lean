import Derived.Test.Qxb6003672aStC
/- plain facts on what Step lays: no Go in sight -/
namespace Go.Proofs.Qxb6003672a
set_option linter.unusedVariables false

/-- nodup numbers below m: at most m of them -/
theorem pigeon : ∀ (m : Nat) (q : List Nat), q.Nodup → (∀ x ∈ q, x < m) → q.length ≤ m
  | 0, q, _, h => by
    cases q with
    | nil => simp
    | cons a t => have := h a (by simp); omega
  | m + 1, q, hn, h => by
    by_cases hm : m ∈ q
    · have hp := List.perm_cons_erase hm
      have hl := hp.length_eq
      simp only [List.length_cons] at hl
      have := pigeon m (q.erase m) (hn.erase m) (fun x hx => by
        have h1 := h x (List.mem_of_mem_erase hx)
        have h2 : x ≠ m := fun e => by subst e; exact (List.Nodup.not_mem_erase hn) hx
        omega)
      omega
    · have := pigeon m q hn (fun x hx => by
        have h1 := h x hx
        have h2 : x ≠ m := fun e => by subst e; exact hm hx
        omega)
      omega
theorem perm_range : ∀ (m : Nat) (q : List Nat), q.Nodup → (∀ x ∈ q, x < m) → q.length = m → q.Perm (List.range m)
  | 0, q, _, _, hl => by
    have := List.eq_nil_of_length_eq_zero hl
    subst this
    exact List.Perm.refl _
  | m + 1, q, hn, h, hl => by
    have hm : m ∈ q := by
      apply Decidable.byContradiction
      intro hm
      have := pigeon m q hn (fun x hx => by
        have h1 := h x hx
        have h2 : x ≠ m := fun e => by subst e; exact hm hx
        omega)
      omega
    have hp := List.perm_cons_erase hm
    have hle := hp.length_eq
    simp only [List.length_cons] at hle
    have ih := perm_range m (q.erase m) (hn.erase m) (fun x hx => by
        have h1 := h x (List.mem_of_mem_erase hx)
        have h2 : x ≠ m := fun e => by subst e; exact (List.Nodup.not_mem_erase hn) hx
        omega) (by omega)
    rw [List.range_succ]
    exact hp.trans ((List.Perm.cons m ih).trans (List.perm_append_singleton m (List.range m)).symm)

theorem pos_perm (key : Nat → Nat) (m : Nat) : ((List.range m).map (pos key m)).Perm (List.range m) := by
  refine perm_range m _ ?_ ?_ (by simp)
  · rw [List.nodup_iff_pairwise_ne, List.pairwise_map]
    exact (List.pairwise_lt_range (n := m)).imp_of_mem (fun {a b} ha hb hab => pos_inj key m a b hab (by simpa using hb))
  · intro x hx
    obtain ⟨i, hi, rfl⟩ := List.mem_map.1 hx
    exact pos_lt key m i (by simpa using hi)

theorem Filled.perm {key : Nat → Nat} {m : Nat} {val : Nat → Int} {l : List Int} (h : Filled key m val m l) : l.Perm (tab m val) := by
  have h1 := (pos_perm key m).map (fun j => l.getD j 0)
  have e1 : (List.range m).map (fun j => l.getD j 0) = l := by
    have := tab_of l
    rw [h.1] at this
    exact this.symm
  rw [e1, List.map_map] at h1
  have e2 : (List.range m).map ((fun j => l.getD j 0) ∘ pos key m) = tab m val := List.map_congr_left fun i hi => h.2 i (by simpa using hi)
  rw [e2] at h1
  exact h1.symm

/-- a row as keys -/
def kz (us : List Int) (i : Nat) : Nat := (us.getD i 0).toNat
theorem cn_count (key : Nat → Nat) (u : Nat) : ∀ k, cn key u k = ((List.range k).map key).count u
  | 0 => rfl
  | k + 1 => by
    rw [List.range_succ, List.map_append, List.count_append, ← cn_count key u k]
    show cn key u k + _ = _
    congr 1
    by_cases e : key k = u
    · simp [e]
    · simp [e]
theorem kz_map (us : List Int) : (List.range us.length).map (kz us) = us.map Int.toNat := by
  apply List.ext_getElem
  · simp
  · intro i h1 h2
    simp at h1
    simp [kz, List.getD, h1]

/-- all the requests' targets in order, and whose they are -/
def ccx (rs : Nat → List Int) : Nat → List Int
  | 0 => []
  | i + 1 => ccx rs i ++ rs i
def owx (n : Nat) (rs : Nat → List Int) : Nat → List Int
  | 0 => []
  | i + 1 => owx n rs i ++ List.replicate (rs i).length ((n + 1 + i : Nat) : Int)
theorem map_const' (xs : List Int) (y : Int) : xs.map (fun _ => y) = List.replicate xs.length y := by
  apply List.ext_getElem <;> simp
theorem wsx_1 (n v : Nat) (rs : Nat → List Int) : ∀ i, (wsx n v rs i).map (·.1) = List.replicate (ccx rs i).length (v : Int)
  | 0 => rfl
  | i + 1 => by
    simp only [wsx, ccx, List.map_append, List.length_append, wsx_1 n v rs i, List.replicate_append_replicate.symm]
    congr 1
    simp only [wtx, List.map_map, Function.comp_def]
    exact map_const' _ _
theorem wsx_2 (n v : Nat) (rs : Nat → List Int) : ∀ i, (wsx n v rs i).map (·.2.1) = ccx rs i
  | 0 => rfl
  | i + 1 => by
    simp only [wsx, ccx, List.map_append, wsx_2 n v rs i]
    congr 1
    simp [wtx, List.map_map, Function.comp_def]
theorem wsx_3 (n v : Nat) (rs : Nat → List Int) : ∀ i, (wsx n v rs i).map (·.2.2) = owx n rs i
  | 0 => rfl
  | i + 1 => by
    simp only [wsx, owx, List.map_append, wsx_3 n v rs i]
    congr 1
    simp only [wtx, List.map_map, Function.comp_def]
    exact map_const' _ _
theorem wsx_cc (n v : Nat) (rs : Nat → List Int) (i : Nat) : (wsx n v rs i).length = (ccx rs i).length := by
  rw [← wsx_2 n v rs i, List.length_map]
theorem owx_len (n : Nat) (rs : Nat → List Int) (i : Nat) : (owx n rs i).length = (ccx rs i).length := by
  rw [← wsx_3 n 0 rs i, List.length_map, wsx_cc]
theorem wsx_get (n v : Nat) (rs : Nat → List Int) (i t : Nat) (ht : t < (ccx rs i).length) : (wsx n v rs i).getD t (0, 0, 0) = ((v : Int), (ccx rs i).getD t 0, (owx n rs i).getD t 0) := by
  have hl := wsx_cc n v rs i
  have h1 := wsx_1 n v rs i
  have h2 := wsx_2 n v rs i
  have h3 := wsx_3 n v rs i
  generalize hW : wsx n v rs i = W at *
  have ht' : t < W.length := by omega
  have e0 : W.getD t (0, 0, 0) = W[t] := by simp [List.getD, ht']
  rw [e0]
  have e1 : (W.map (·.1))[t]? = some (W[t]).1 := by simp [ht']
  have e2 : (W.map (·.2.1))[t]? = some (W[t]).2.1 := by simp [ht']
  have e3 : (W.map (·.2.2))[t]? = some (W[t]).2.2 := by simp [ht']
  rw [h1] at e1
  rw [h2] at e2
  rw [h3] at e3
  have e4 : (v : Int) = (W[t]).1 := by
    rw [List.getElem?_replicate] at e1
    simp [ht] at e1
    exact e1
  refine Prod.ext e4.symm (Prod.ext ?_ ?_)
  · simp [List.getD, e2]
  · simp [List.getD, e3]
theorem owx_count (n : Nat) (rs : Nat → List Int) (r : Nat) : ∀ i, ((owx n rs i).map Int.toNat).count r = if n + 1 ≤ r ∧ r < n + 1 + i then (rs (r - (n + 1))).length else 0
  | 0 => by rw [if_neg (by omega)]; rfl
  | i + 1 => by
    have ex : ((n + 1 + i : Nat) : Int).toNat = n + 1 + i := Int.toNat_natCast _
    rw [owx, List.map_append, List.count_append, owx_count n rs r i, List.map_replicate, List.count_replicate, ex]
    by_cases e : r = n + 1 + i
    · subst e
      rw [if_neg (by omega : ¬ (n + 1 ≤ n + 1 + i ∧ n + 1 + i < n + 1 + i)), if_pos (by omega : n + 1 ≤ n + 1 + i ∧ n + 1 + i < n + 1 + (i + 1)), show n + 1 + i - (n + 1) = i by omega]
      simp
    · have e3 : ((n + 1 + i) == r) = false := by simp; omega
      rw [e3]
      by_cases h : n + 1 ≤ r ∧ r < n + 1 + i
      · rw [if_pos h, if_pos (by omega : n + 1 ≤ r ∧ r < n + 1 + (i + 1))]; simp
      · rw [if_neg h, if_neg (by omega : ¬ (n + 1 ≤ r ∧ r < n + 1 + (i + 1)))]; simp
theorem owx_mem (n : Nat) (rs : Nat → List Int) (x : Int) : ∀ i, x ∈ owx n rs i → (n : Int) + 1 ≤ x ∧ x < (n : Int) + 1 + i
  | 0, h => by simp [owx] at h
  | i + 1, h => by
    rw [owx, List.mem_append] at h
    rcases h with h | h
    · have := owx_mem n rs x i h; omega
    · have := List.eq_of_mem_replicate h; omega
theorem ccx_mem (rs : Nat → List Int) (n : Int) (x : Int) : ∀ k, (∀ i, i < k → ∀ j, j < (rs i).length → 0 ≤ (rs i).getD j 0 ∧ (rs i).getD j 0 < n) → x ∈ ccx rs k → 0 ≤ x ∧ x < n
  | 0, _, h => by simp [ccx] at h
  | k + 1, hr, h => by
    rw [ccx, List.mem_append] at h
    rcases h with h | h
    · exact ccx_mem rs n x k (fun i hi => hr i (by omega)) h
    · obtain ⟨j, hj, e⟩ := List.getElem_of_mem h
      have := hr k (by omega) j hj
      simp [List.getD, hj, e] at this
      exact this
theorem getD_mem {l : List Int} {j : Nat} (hj : j < l.length) : l.getD j 0 ∈ l := by
  rw [List.getD_eq_getElem?_getD, List.getElem?_eq_getElem hj]
  exact List.getElem_mem hj

/-- by index -/
def NF (n v : Nat) (d : Int) (rs : Nat → List Int) (j : Nat) : Int := if j < n then (if j = v then 1 else 0) else if j = n then d else ((rs (j - n - 1)).length : Int)
def UF (n v : Nat) (j : Nat) : Int := if j < n then -1 else if j = n then (v : Int) else (n : Int)
theorem ndx_tab (n v : Nat) (d : Int) (rs : Nat → List Int) (hv : v < n) : ∀ i, ndx n v d rs i = tab (n + 1 + i) (NF n v d rs)
  | 0 => by
    rw [ndx, tab_zero, tab_set n _ (NF n v d rs) v 1 (fun i hi => by unfold NF; rw [if_pos hi])]
    exact tab_snoc _ _ _ (by unfold NF; simp)
  | i + 1 => by
    rw [ndx, ndx_tab n v d rs hv i]
    refine tab_snoc _ _ _ ?_
    unfold NF
    rw [if_neg (by omega), if_neg (by omega), show n + 1 + i - n - 1 = i by omega]
theorem upx_tab (n v : Nat) : ∀ i, upx n v i = tab (n + 1 + i) (UF n v)
  | 0 => by
    rw [upx]
    have e : List.replicate n (-1 : Int) = tab n (UF n v) := by
      apply List.ext_getElem
      · simp [tab]
      · intro i h1 h2
        simp at h1
        simp [tab, UF, h1]
    rw [e]
    exact tab_snoc _ _ _ (by unfold UF; simp)
  | i + 1 => by
    rw [upx, upx_tab n v i]
    refine tab_snoc _ _ _ ?_
    unfold UF
    rw [if_neg (by omega), if_neg (by omega)]

theorem lo_const (key : Nat → Nat) (v u : Nat) : ∀ m, (∀ i, i < m → key i = v) → lo key u m = if v < u then m else 0
  | 0, _ => by simp [lo]
  | m + 1, h => by
    show lo key u m + (if key m < u then 1 else 0) = _
    rw [lo_const key v u m (fun i hi => h i (by omega)), h m (by omega)]
    split <;> simp
theorem cn_const (key : Nat → Nat) (v : Nat) : ∀ m, (∀ i, i < m → key i = v) → cn key v m = m
  | 0, _ => rfl
  | m + 1, h => by
    show cn key v m + (if key m = v then 1 else 0) = _
    rw [cn_const key v m (fun i hi => h i (by omega)), h m (by omega), if_pos rfl]
theorem pos_const (key : Nat → Nat) (v m i : Nat) (h : ∀ i, i < m → key i = v) (hi : i < m) : pos key m i = i := by
  unfold pos
  rw [h i hi, lo_const key v v m h, if_neg (by omega), cn_const key v i (fun j hj => h j (by omega)), Nat.zero_add]

/-- what Graph answers of the step's waits -/
theorem step_graph {n v k : Nat} {rs : Nat → List Int} {tos xs : List Int}
    (h1 : Filled (kv (wsx n v rs k)) (ccx rs k).length (fun i => ((wsx n v rs k).getD i (0, 0, 0)).2.1) (ccx rs k).length tos)
    (h2 : Filled (kt (wsx n v rs k)) (ccx rs k).length (fun i => ((wsx n v rs k).getD i (0, 0, 0)).2.2) (ccx rs k).length xs) :
    tos = ccx rs k ∧ (∀ u, lo (kv (wsx n v rs k)) u (ccx rs k).length = if v < u then (ccx rs k).length else 0) ∧
    (∀ u, lo (kt (wsx n v rs k)) u (ccx rs k).length = lo (kz (ccx rs k)) u (ccx rs k).length) ∧
    (∀ i, i < (ccx rs k).length → (n : Int) + 1 ≤ xs.getD i 0 ∧ xs.getD i 0 < (n : Int) + 1 + k) ∧
    ∀ r, n + 1 ≤ r → r < n + 1 + k → cn (kz xs) r (ccx rs k).length = (rs (r - (n + 1))).length := by
  have hkv : ∀ i, i < (ccx rs k).length → kv (wsx n v rs k) i = v := fun i hi => by
    unfold kv
    rw [wsx_get n v rs k i hi]
    simp
  have hkt : ∀ i, i < (ccx rs k).length → kt (wsx n v rs k) i = kz (ccx rs k) i := fun i hi => by
    unfold kt kz
    rw [wsx_get n v rs k i hi]
  have hp := h2.perm
  have ht : tab (ccx rs k).length (fun i => ((wsx n v rs k).getD i (0, 0, 0)).2.2) = owx n rs k := by
    have := tab_of (owx n rs k)
    rw [owx_len] at this
    rw [this]
    exact tab_ext _ _ _ fun i hi => by rw [wsx_get n v rs k i hi]
  rw [ht] at hp
  refine ⟨?_, fun u => lo_const _ v u _ hkv, fun u => lo_congr u _ hkt, fun i hi => ?_, fun r hr1 hr2 => ?_⟩
  · apply List.ext_getElem
    · exact h1.1
    · intro i hi1 hi2
      have := h1.2 i hi2
      rw [pos_const _ v _ i hkv hi2] at this
      have e2 : (fun i => ((wsx n v rs k).getD i (0, 0, 0)).2.1) i = (ccx rs k).getD i 0 := by
        show ((wsx n v rs k).getD i (0, 0, 0)).2.1 = _
        rw [wsx_get n v rs k i hi2]
      rw [e2] at this
      simp [List.getD, hi1, hi2] at this
      exact this
  · exact owx_mem n rs _ k (hp.mem_iff.1 (getD_mem (by rw [h2.1]; exact hi)))
  · rw [cn_count]
    have e1 := kz_map xs
    rw [h2.1] at e1
    rw [e1, (hp.map Int.toNat).count_eq, owx_count n rs r k, if_pos ⟨hr1, hr2⟩]

end Go.Proofs.Qxb6003672a

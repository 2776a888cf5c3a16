import Derived.Test.Qxb6003682aEdges
namespace Go.Proofs.Qxb6003682a
open Go.RowKit
set_option linter.unusedVariables false

theorem upL_append (i : Nat) (a b : List Nat) : upL i (a ++ b) = upL i a ++ upL i b := by
  unfold upL
  rw [List.filter_append, List.map_append]
theorem rowL_pre (L : Nat → Nat → Bool) (i : Nat) : ∀ (k j : Nat), ∃ ys, rowL L i (j + k) = rowL L i j ++ ys
  | 0, j => ⟨[], by simp⟩
  | k + 1, j => by
    obtain ⟨ys, e⟩ := rowL_pre L i k j
    exact ⟨ys ++ _, by rw [← Nat.add_assoc, rowL_succ, e, List.append_assoc]⟩
theorem prs_pre (L : Nat → Nat → Bool) (n : Nat) : ∀ (k i : Nat), ∃ ys, prs L n (i + k) = prs L n i ++ ys
  | 0, i => ⟨[], by simp⟩
  | k + 1, i => by
    obtain ⟨ys, e⟩ := prs_pre L n k i
    exact ⟨ys ++ upL (i + k) (rowL L (i + k) n), by rw [← Nat.add_assoc, prs, e, List.append_assoc]⟩
/-- the links ahead of the pair i, j -/
def ahead (L : Nat → Nat → Bool) (n i j : Nat) : List (Nat × Nat) := prs L n i ++ upL i (rowL L i j)
theorem upL_none (L : Nat → Nat → Bool) (i : Nat) : upL i (rowL L i (i + 1)) = [] := by
  unfold upL
  rw [List.map_eq_nil_iff, List.filter_eq_nil_iff]
  intro j hj
  unfold rowL at hj
  rw [List.mem_filter, List.mem_range] at hj
  simp
  omega
theorem ahead_start (L : Nat → Nat → Bool) (n i : Nat) : ahead L n i (i + 1) = prs L n i := by
  unfold ahead
  rw [upL_none, List.append_nil]
theorem ahead_end (L : Nat → Nat → Bool) (n i : Nat) : ahead L n i n = prs L n (i + 1) := rfl
theorem ahead_succ (L : Nat → Nat → Bool) (n i j : Nat) (hij : i < j) : ahead L n i (j + 1) = ahead L n i j ++ (if L i j = true then [(i, j)] else []) := by
  unfold ahead
  rw [rowL_succ, upL_append, List.append_assoc]
  congr 2
  have h : j ≠ i := by omega
  by_cases hL : L i j = true
  · simp [h, hL, upL, hij]
  · simp [hL, upL]
theorem ahead_at (L : Nat → Nat → Bool) (n i j : Nat) (hij : i < j) (hj : j < n) (hL : L i j = true) : ∃ rest, prs L n n = ahead L n i j ++ ((i, j) :: rest) := by
  obtain ⟨ys, e⟩ := rowL_pre L i (n - (j + 1)) (j + 1)
  rw [show j + 1 + (n - (j + 1)) = n by omega] at e
  obtain ⟨zs, e2⟩ := prs_pre L n (n - (i + 1)) (i + 1)
  rw [show i + 1 + (n - (i + 1)) = n by omega] at e2
  have e3 := ahead_succ L n i j hij
  rw [if_pos hL] at e3
  refine ⟨upL i ys ++ zs, ?_⟩
  rw [e2, prs, e, upL_append, ← List.append_assoc]
  show ahead L n i (j + 1) ++ _ ++ _ = _
  rw [e3]
  simp
theorem ahead_get (L : Nat → Nat → Bool) (n i j : Nat) (hij : i < j) (hj : j < n) (hL : L i j = true) : (ahead L n i j).length < (prs L n n).length ∧ (prs L n n).getD (ahead L n i j).length (0, 0) = (i, j) := by
  obtain ⟨rest, e⟩ := ahead_at L n i j hij hj hL
  rw [e]
  refine ⟨by simp, ?_⟩
  rw [List.getD_eq_getElem?_getD, List.getElem?_append_right (Nat.le_refl _), Nat.sub_self]
  rfl
theorem ahead_len (L : Nat → Nat → Bool) (n i j : Nat) (hi : i ≤ n) (hj : j ≤ n) (hn : n ≤ 64) : (ahead L n i j).length ≤ 4096 + 64 := by
  unfold ahead
  have h1 := prs_len L n i
  have h2 := adjL_le L n i hi hn
  have h3 := upL_len i (rowL L i j)
  have h4 := rowL_len L i j
  rw [List.length_append]
  omega

theorem upL_mem (L : Nat → Nat → Bool) (n i : Nat) (p : Nat × Nat) (hp : p ∈ upL i (rowL L i n)) : p.1 = i ∧ i < p.2 ∧ p.2 < n := by
  unfold upL at hp
  obtain ⟨j, hj, rfl⟩ := List.mem_map.1 hp
  rw [List.mem_filter] at hj
  have h1 := hj.1
  unfold rowL at h1
  rw [List.mem_filter, List.mem_range] at h1
  exact ⟨rfl, by simpa using hj.2, h1.1⟩
theorem prs_mem (L : Nat → Nat → Bool) (n : Nat) : ∀ i (p : Nat × Nat), p ∈ prs L n i → p.1 < i ∧ p.1 < p.2 ∧ p.2 < n
  | 0, p, h => by simp [prs] at h
  | i + 1, p, h => by
    rw [prs, List.mem_append] at h
    rcases h with h | h
    · have := prs_mem L n i p h; omega
    · have := upL_mem L n i p h; omega
theorem upL_sorted (L : Nat → Nat → Bool) (n i : Nat) : (upL i (rowL L i n)).Pairwise (fun a b => a.1 < b.1 ∨ (a.1 = b.1 ∧ a.2 < b.2)) := by
  unfold upL rowL
  rw [List.pairwise_map]
  exact (((List.pairwise_lt_range (n := n)).filter _).filter _).imp (fun h => .inr ⟨rfl, h⟩)
theorem prs_sorted (L : Nat → Nat → Bool) (n : Nat) : ∀ i, (prs L n i).Pairwise (fun a b => a.1 < b.1 ∨ (a.1 = b.1 ∧ a.2 < b.2))
  | 0 => by simp [prs]
  | i + 1 => by
    rw [prs, List.pairwise_append]
    refine ⟨prs_sorted L n i, upL_sorted L n i, fun a ha b hb => .inl ?_⟩
    have h1 := prs_mem L n i a ha
    have h2 := upL_mem L n i b hb
    omega
theorem prs_get (L : Nat → Nat → Bool) (n e : Nat) (he : e < (prs L n n).length) : ((prs L n n).getD e (0, 0)).1 < ((prs L n n).getD e (0, 0)).2 ∧ ((prs L n n).getD e (0, 0)).2 < n := by
  rw [List.getD_eq_getElem?_getD, List.getElem?_eq_getElem he]
  exact (prs_mem L n n _ (List.getElem_mem he)).2
theorem prs_next (L : Nat → Nat → Bool) (n e : Nat) (he : e + 1 < (prs L n n).length) : ((prs L n n).getD e (0, 0)).1 < ((prs L n n).getD (e + 1) (0, 0)).1 ∨ (((prs L n n).getD e (0, 0)).1 = ((prs L n n).getD (e + 1) (0, 0)).1 ∧ ((prs L n n).getD e (0, 0)).2 < ((prs L n n).getD (e + 1) (0, 0)).2) := by
  have h := prs_sorted L n n
  rw [List.getD_eq_getElem?_getD, List.getElem?_eq_getElem (by omega : e < _), List.getD_eq_getElem?_getD, List.getElem?_eq_getElem he]
  exact List.pairwise_iff_getElem.1 h e (e + 1) (by omega) he (by omega)

/-- the ids ascend -/
def Asc (Z : Nat → Int) (n : Nat) : Prop := ∀ i, 0 < i → i < n → Z (i - 1) < Z i
theorem Asc.lt {Z : Nat → Int} {n : Nat} (h : Asc Z n) (i : Nat) : ∀ k, i + k + 1 < n → Z i < Z (i + k + 1)
  | 0, hk => h (i + 1) (by omega) hk
  | k + 1, hk => by
    have h1 := h.lt i k (by omega)
    have h2 := h (i + (k + 1) + 1) (by omega) hk
    rw [show i + (k + 1) + 1 - 1 = i + k + 1 by omega] at h2
    omega
theorem Asc.mono {Z : Nat → Int} {n : Nat} (h : Asc Z n) {i j : Nat} (hij : i < j) (hj : j < n) : Z i < Z j := by
  have := h.lt i (j - i - 1) (by omega)
  rwa [show i + (j - i - 1) + 1 = j by omega] at this

theorem EI.cell {w wr : World} {Z : Nat → Int} {ps : List (Nat × Nat)} {gE cE : Nat} (h : EI w wr Z ps gE cE) (k : Nat) (hk : k < ps.length) :
    wr.cell? ⟨gE, k * 2, none⟩ = some (.int .i64 (Z (ps.getD k (0, 0)).1)) ∧ wr.cell? ⟨gE, k * 2 + 1, none⟩ = some (.int .i64 (Z (ps.getD k (0, 0)).2)) := by
  obtain ⟨h1, h2⟩ := pcs_get Z ps k hk
  rw [World.ownsRow.cellAt h.own _ (by omega), World.ownsRow.cellAt h.own _ (by omega)]
  exact ⟨h1, h2⟩

theorem Cel.drewN {w : World} {a : Option Addr} {len cap : Nat} {V : Nat → Value} (h : Cel w a len cap V) (n : Nat) : Cel (w.drewN n) a len cap V := by
  rcases h with h | ⟨x, e, hc⟩
  · exact .inl h
  · exact .inr ⟨x, e, fun i hi => by rw [World.cell?_drewN]; exact hc i hi⟩

/-- the adjacency that was laid, under a new graph -/
theorem AI.graph {B : Nat} {w0 w : World} {L : Nat → Nat → Bool} {n : Nat} {gO gA cA : Nat} (h : AI B w0 w L n n (adjL L n n) gO gA cA) {Z : Nat → Int} {aI : Option Addr} {cI : Nat} (hI : Cel w aI n cI (fun i => .int .i64 (Z i))) :
    Gr (w.alloc (.cells #[.slice aI n cI, .slice (some ⟨gO, 0, none⟩) (n + 1) (n + 1), .slice (some ⟨gA, 0, none⟩) (adjL L n n).length cA] 51)) w.heap.size L n Z aI cI gO gA cA := by
  have f : Fr (· < w.heap.size) w (w.alloc (.cells #[.slice aI n cI, .slice (some ⟨gO, 0, none⟩) (n + 1) (n + 1), .slice (some ⟨gA, 0, none⟩) (adjL L n n).length cA] 51)) := (Fr.refl _ w).alloc (fun _ e => e) _
  have hc := fun j => World.cell?_alloc_new (w := w) #[.slice aI n cI, .slice (some ⟨gO, 0, none⟩) (n + 1) (n + 1), .slice (some ⟨gA, 0, none⟩) (adjL L n n).length cA] 51 j
  refine ⟨hc 0, hc 1, hc 2, hI.fr f (fun _ e => e), fun i hi => ?_, fun i hi => ?_, ?_⟩
  · obtain ⟨g, e, _, c, _⟩ := h.off.get i (by omega)
    simp at e
    subst e
    rw [f.cell (p := ⟨gO, i, none⟩) (World.block_lt_of_cell? _ _ c), c]
    unfold offV
    rw [if_pos hi]
  · have c := World.ownsRow.cellAt h.adj i (by omega)
    have c2 : w.cell? ⟨gA, i, none⟩ = some (.int .i32 (((adjL L n n).getD i 0 : Nat) : Int)) := by
      rw [c, List.getD_eq_getElem?_getD]
      unfold i32s
      rw [List.getElem?_map, List.getElem?_eq_getElem hi]
      rfl
    exact (f.cell (p := ⟨gA, i, none⟩) (World.block_lt_of_cell? _ _ c2)).trans c2
  · rcases h.adj.2 with ⟨h1, h2⟩ | ⟨g, c, cur, h1, h2, h3, h4, h5, _⟩
    · cases h1
    · simp at h1
      obtain ⟨_, rfl⟩ := h1
      exact ⟨h4, h5⟩

set_option maxRecDepth 100000 in
set_option maxHeartbeats 2000000 in
theorem law3 (a0 : Option Addr) (n cap0 : Nat) (Z : Nat → Int) (a1 : Option Addr) (lm cap1 : Nat) (M : Nat → Bool) (w : World) (w0 : Cel w a0 n cap0 (fun i => .int .i64 (Z i))) (w1 : Cel w a1 lm cap1 (fun i => .bool (M i))) (hn : n ≤ 64) (hm : lm ≤ 4096) :
    Calls Try.prog 3 #[.slice a0 n cap0, .slice a1 lm cap1] w fun e w' => e = .returned (.bool true) ∧ Below w.heap.size w w' := by
  have g0 := w0.get
  go_enter Try.func3, Try.ntmps3
  go_wp2_with fail
  refine (bytes7 _ _ _ _ _ _ _ (by omega) (by omega)).mono ?_
  rintro e w' ⟨⟨bb, rfl⟩, rfl⟩
  cases bb
  · go_wp2
    go_ret
    exact ⟨rfl, Below.refl _ _⟩
  go_upto_block 0 with fail
  go_cut [1] (fun s1 wc => s1 = .slice a1 lm cap1 ∧ (∃ q, w.drewN q = wc) ∧ Hid (Asc Z n))
  case first =>
    clear w0 w1
    go_wp2
    go_loopw [5] (fun i wr => ∃ k q : Nat, k ≤ n + 1 ∧ 1 ≤ k ∧ i = .int .i64 k ∧ w.drewN q = wr ∧ Hid (Asc Z k)) (fun i _ => n - (intOf i).toNat)
    case atStart => exact ⟨1, 0, by omega, Nat.le_refl _, rfl, rfl, fun j h0 h1 => by omega⟩
    case round =>
      obtain ⟨k, q, hk, hk1, rfl, rfl, HJ⟩ := hrel
      by_cases hlt : k < n
      · obtain ⟨x, rfl, hc⟩ := g0 k hlt
        obtain ⟨x', ex, hc'⟩ := g0 (k - 1) (by omega)
        simp at ex
        subst ex
        have f1 : ∀ m, (w.drewN m).cell? (x.add k) = some (.int .i64 (Z k)) := fun m => by rw [World.cell?_drewN]; exact hc
        have f2 : ∀ m, (w.drewN m).cell? (x.add (k - 1)) = some (.int .i64 (Z (k - 1))) := fun m => by rw [World.cell?_drewN]; exact hc'
        have wk : IntKind.i64.wrap ((k : Int) - 1) = ((k - 1 : Nat) : Int) := by rw [IntKind.wrap_i64]; omega
        have k1 : ((k - 1 : Nat) : Int) < (n : Int) := by omega
        clear g0 hc hc'
        generalize hz : Z k = z at *
        generalize hz' : Z (k - 1) = z' at *
        have HZ := Hid.mk (And.intro hz hz')
        clear hz hz'
        generalize hkp : k - 1 = kp at *
        by_cases c1 : z ≤ z'
        · go_wp2
          go_quiet (fail)
          go_wp2
          go_ret
          exact ⟨rfl, ((Fr.drewN (Fr.refl (· < w.heap.size) w) q).drewN nq).below⟩
        go_wp2
        go_quiet (fail)
        go_wp2
        go_roundw
        case rel =>
          refine ⟨k + 1, _, by omega, by omega, by go_num, rfl, fun j h0 hj => ?_⟩
          by_cases e : j = k
          · subst e; rw [hkp, HZ.out.1, HZ.out.2]; omega
          · exact HJ.out j h0 (by omega)
        case measure => simp [intOf]; omega
      · have HJ2 : Hid (Asc Z n) := fun j h0 hj => HJ.out j h0 (by omega)
        go_wp2
        go_meet
        case rel => exact ⟨rfl, ⟨q, rfl⟩, HJ2⟩
  case rest =>
    obtain ⟨rfl, ⟨q, rfl⟩, HZ⟩ := hcut
    clear g0
    have w0' := w0.drewN q
    have w1' := w1.drewN q
    have fB := (Fr.refl (· < w.heap.size) w).drewN q
    clear w0 w1
    generalize w.drewN q = wB at *
    go_wp2_with fail
    refine (cloneI64_any w0' (by omega) (fun i => rfl)).mono ?_
    rintro e wC ⟨aI, cI, rfl, oI, nI, fC⟩
    have w1C := w1'.fr fC (fun _ h => h)
    have fBC : Fr (· < w.heap.size) w wC := fB.trans (fC.mono (fun k h => Nat.lt_of_lt_of_le h fB.size))
    clear w0' w1' nI fB fC
    go_wp2_with fail
    refine (cloneBool_any w1C (by omega) (fun i => rfl)).mono ?_
    rintro e wD ⟨aM, cM, rfl, oM, nM, fD⟩
    have kI := (oI.frN fD).cel
    have kM := oM.cel
    have fBD : Fr (· < w.heap.size) w wD := fBC.trans (fD.mono (fun k h => Nat.lt_of_lt_of_le h fBC.size))
    clear oI w1C oM nM fD fBC
    go_wp2_with fail
    refine (adj_any _ _ _ M n wD hn kM).mono ?_
    rintro e wE ⟨gO, gA, cA, rfl, hA⟩
    have kI2 := kI.fr hA.fr (fun _ h => h)
    have kM2 := kM.fr hA.fr (fun _ h => h)
    have fBE : Fr (· < w.heap.size) w wE := fBD.trans (hA.fr.mono (fun k h => Nat.lt_of_lt_of_le h fBD.size))
    have hG := hA.graph kI2
    clear kI kM hA fBD
    generalize hLL : lk M lm n = L at *
    have HLL := Hid.mk hLL
    clear hLL
    have HG := Hid.mk hG
    clear hG
    generalize hT : (adjL L n n).length = T at *
    have HT := Hid.mk hT
    clear hT
    go_wp2_with fail
    refine (zzgraph _ _ _ _ _ _ _ _ _ wE).mono ?_
    rintro e wF ⟨rfl, eF⟩
    have fF : Fr (· < wE.heap.size) wE wF := by rw [← eF]; exact (Fr.refl _ wE).alloc (fun _ e => e) _
    have HG2 : Hid (Gr wF wE.heap.size L n Z aI cI gO gA cA) := by rw [← eF]; exact HG
    have kI3 := kI2.fr fF (fun _ h => h)
    have kM3 := kM2.fr fF (fun _ h => h)
    have fBF : Fr (· < w.heap.size) w wF := fBE.trans (fF.mono (fun k h => Nat.lt_of_lt_of_le h fBE.size))
    clear kI2 kM2 HG eF fF fBE HT
    go_wp2_with fail
    refine (edges_any _ L n Z aI cI gO gA cA wF hn HG2.out).mono ?_
    rintro e wG ⟨gE, cE, rfl, hE⟩
    have kI4 := kI3.fr hE.fr (fun _ h => h)
    have kM4 := kM3.fr hE.fr (fun _ h => h)
    have fBG : Fr (· < w.heap.size) w wG := fBF.trans (hE.fr.mono (fun k h => Nat.lt_of_lt_of_le h fBF.size))
    have hcs := hE.cell
    clear kI3 kM3 HG2 hE fBF
    generalize wE.heap.size = gG at *
    have hPl : (prs L n n).length ≤ 4096 := Nat.le_trans (prs_len L n n) (adjL_le L n n (Nat.le_refl _) hn)
    generalize hP : (prs L n n).length = P at *
    have HP := Hid.mk hP
    clear hP
    go_upto_block 2 with fail
    go_cut [11] (fun s11 wc => s11 = .int .i64 P ∧ ∃ q, wG.drewN q = wc)
    case first =>
      have HCS := Hid.mk hcs
      have HKM := Hid.mk kM4
      have gI := Hid.mk kI4.get
      clear hcs kM4 kI4 fBG HZ
      go_wp2
      go_loopw [11, 12] (fun s i wr => ∃ (k q : Nat), k ≤ n ∧ i = .int .i64 k ∧ s = .int .i64 (prs L n k).length ∧ wG.drewN q = wr) (fun _ i _ => n - (intOf i).toNat)
      case atStart => exact ⟨0, 0, Nat.zero_le _, rfl, rfl, rfl⟩
      case round =>
        obtain ⟨k, q, hk, rfl, rfl, rfl⟩ := hrel
        by_cases hlt : k < n
        · have hs := ahead_start L n k
          rw [← hs]
          clear hs
          generalize hS : (ahead L n k (k + 1)).length = S at *
          have HS := Hid.mk hS
          clear hS
          go_wp2
          go_loopw [11, 13] (fun s i wr => ∃ (j q : Nat), k < j ∧ j ≤ n ∧ i = .int .i64 j ∧ s = .int .i64 (ahead L n k j).length ∧ wG.drewN q = wr) (fun _ i _ => n - (intOf i).toNat)
          case atStart => exact ⟨k + 1, q, by omega, by omega, by go_num, by rw [HS.out], rfl⟩
          case round =>
            clear HS
            obtain ⟨j, q, hkj, hj, rfl, rfl, rfl⟩ := hrel
            have hal := ahead_len L n k j (by omega) hj hn
            by_cases hjn : j < n
            · have hsu := ahead_succ L n k j hkj
              have hge := ahead_get L n k j hkj hjn
              have HSU := Hid.mk (And.intro hsu hge)
              clear hsu hge
              generalize hA : (ahead L n k j).length = A at *
              have HA := Hid.mk hA
              clear hA
              have hkm := HKM.out.drewN q
              go_wp2_with fail
              refine (linked_any _ _ _ M n k j _ hlt hjn hn hkm).mono ?_
              rintro e w' ⟨rfl, rfl⟩
              clear hkm
              rw [HLL.out]
              generalize hb : L k j = b at *
              cases b
              · have HE : Hid ((ahead L n k (j + 1)).length = A) := by rw [HSU.out.1]; simpa using HA
                clear HSU HA hb
                go_wp2
                go_roundw
                case rel => exact ⟨j + 1, q, by omega, by omega, by go_num, by rw [HE.out], rfl⟩
                case measure => simp [intOf]; omega
              · have HE : Hid ((ahead L n k (j + 1)).length = A + 1) := by rw [HSU.out.1]; simp; exact HA
                obtain ⟨h1, h2⟩ := HSU.out.2 rfl
                rw [HP.out] at h1
                obtain ⟨c1, c2⟩ := HCS.out A h1
                rw [h2] at c1 c2
                obtain ⟨x, rfl, i1⟩ := gI.out k hlt
                obtain ⟨x', ex, i2⟩ := gI.out j hjn
                simp at ex
                subst ex
                have f1 : ∀ m, (wG.drewN m).cell? ⟨gE, A * 2, none⟩ = some (.int .i64 (Z k)) := fun m => by rw [World.cell?_drewN]; exact c1
                have f2 : ∀ m, (wG.drewN m).cell? ⟨gE, A * 2 + 1, none⟩ = some (.int .i64 (Z j)) := fun m => by rw [World.cell?_drewN]; exact c2
                have f3 : ∀ m, (wG.drewN m).cell? (x.add k) = some (.int .i64 (Z k)) := fun m => by rw [World.cell?_drewN]; exact i1
                have f4 : ∀ m, (wG.drewN m).cell? (x.add j) = some (.int .i64 (Z j)) := fun m => by rw [World.cell?_drewN]; exact i2
                clear HSU HA hb h2 c1 c2 i1 i2 gI HCS HKM
                generalize Z k = zk at *
                generalize Z j = zj at *
                go_wp2
                go_quiet (fail)
                go_wp2
                go_roundw
                case rel => exact ⟨j + 1, _, by omega, by omega, by go_num, by rw [HE.out]; go_num, rfl⟩
                case measure => simp [intOf]; omega
            · have e : j = n := by omega
              subst e
              have he := ahead_end L j k
              rw [he] at hal ⊢
              clear he
              generalize hS : (prs L j (k + 1)).length = S at *
              have HS := Hid.mk hS
              clear hS
              go_wp2
              go_roundw
              case rel => exact ⟨k + 1, q, by omega, by go_num, by rw [HS.out], rfl⟩
              case measure => simp [intOf]; omega
        · have e : k = n := by omega
          subst e
          rw [HP.out]
          go_wp2
          go_meet
          case rel => exact ⟨rfl, q, rfl⟩
    case rest =>
      obtain ⟨rfl, q, rfl⟩ := hcut
      clear kI4 kM4
      have hcs2 : ∀ k, k < P → (wG.drewN q).cell? ⟨gE, k * 2, none⟩ = some (.int .i64 (Z ((prs L n n).getD k (0, 0)).1)) ∧ (wG.drewN q).cell? ⟨gE, k * 2 + 1, none⟩ = some (.int .i64 (Z ((prs L n n).getD k (0, 0)).2)) := fun k hk => by rw [World.cell?_drewN, World.cell?_drewN]; exact hcs k hk
      have f2 := fBG.drewN q
      clear hcs fBG
      generalize wG.drewN q = wH at *
      have HCS := Hid.mk hcs2
      have HF := Hid.mk f2
      clear hcs2 f2
      go_wp2
      go_loopw [14] (fun i wr => ∃ k : Nat, k ≤ P ∧ i = .int .i64 k ∧ Fr (· < wH.heap.size) wH wr) (fun i _ => P - (intOf i).toNat)
      case atStart => exact ⟨0, Nat.zero_le _, rfl, Fr.refl _ _⟩
      case round =>
        obtain ⟨k, hk, rfl, f⟩ := hrel
        by_cases hlt : k < P
        · obtain ⟨c1, c2⟩ := HCS.out k hlt
          obtain ⟨p1, p2⟩ := prs_get L n k (by rw [HP.out]; exact hlt)
          have z1 := HZ.out.mono p1 p2
          have lE := World.block_lt_of_cell? _ _ c1
          have d1 := (f.cell (p := ⟨gE, k * 2, none⟩) lE).trans c1
          have d2 := (f.cell (p := ⟨gE, k * 2 + 1, none⟩) lE).trans c2
          have f1 : ∀ m, (wr.drewN m).cell? ⟨gE, k * 2, none⟩ = some (.int .i64 (Z ((prs L n n).getD k (0, 0)).1)) := fun m => by rw [World.cell?_drewN]; exact d1
          have f2 : ∀ m, (wr.drewN m).cell? ⟨gE, k * 2 + 1, none⟩ = some (.int .i64 (Z ((prs L n n).getD k (0, 0)).2)) := fun m => by rw [World.cell?_drewN]; exact d2
          by_cases hk0 : k = 0
          · subst hk0
            have Hf := Hid.mk f
            clear c1 c2 d1 d2 f p1 p2
            generalize Z ((prs L n n).getD 0 (0, 0)).1 = zu at *
            generalize Z ((prs L n n).getD 0 (0, 0)).2 = zv at *
            go_wp2
            go_quiet (fail)
            go_wp2
            go_roundw
            case rel => exact ⟨0 + 1, by omega, by go_num, Hf.out.drewN _⟩
            case measure => simp [intOf]; omega
          · obtain ⟨m, rfl⟩ : ∃ m, k = m + 1 := ⟨k - 1, by omega⟩
            have nx := prs_next L n m (by rw [HP.out]; exact hlt)
            obtain ⟨e1, e2⟩ := HCS.out m (by omega)
            have d3 := (f.cell (p := ⟨gE, m * 2, none⟩) lE).trans e1
            have d4 := (f.cell (p := ⟨gE, m * 2 + 1, none⟩) lE).trans e2
            obtain ⟨p3, p4⟩ := prs_get L n m (by rw [HP.out]; omega)
            have z2 : Z ((prs L n n).getD m (0, 0)).1 < Z ((prs L n n).getD (m + 1) (0, 0)).1 ∨ (Z ((prs L n n).getD m (0, 0)).1 = Z ((prs L n n).getD (m + 1) (0, 0)).1 ∧ Z ((prs L n n).getD m (0, 0)).2 < Z ((prs L n n).getD (m + 1) (0, 0)).2) := by
              rcases nx with h | ⟨h1, h2⟩
              · exact .inl (HZ.out.mono h (by omega))
              · exact .inr ⟨by rw [h1], HZ.out.mono h2 p2⟩
            have Hf := Hid.mk f
            clear c1 c2 e1 e2 d1 d2 f p1 p2 p3 p4 nx HCS
            generalize Z ((prs L n n).getD (m + 1) (0, 0)).1 = zu at *
            generalize Z ((prs L n n).getD (m + 1) (0, 0)).2 = zv at *
            generalize Z ((prs L n n).getD m (0, 0)).1 = zu' at *
            generalize Z ((prs L n n).getD m (0, 0)).2 = zv' at *
            generalize hm1 : m + 1 = m1 at *
            have wm : IntKind.i64.wrap ((m1 : Int) - 1) = ((m : Nat) : Int) := by rw [IntKind.wrap_i64]; omega
            have m0 : (m : Int) < (P : Int) := by omega
            have Z2 := Hid.mk z2
            clear z2
            have HD := Hid.mk (And.intro d3 d4)
            clear d3 d4
            go_wp2
            go_quiet (fail)
            have c1 := f1 nq
            have c2 := f2 nq
            have c3 : (wr.drewN nq).cell? ⟨gE, m * 2, none⟩ = some (.int .i64 zu') := by rw [World.cell?_drewN]; exact HD.out.1
            have c4 : (wr.drewN nq).cell? ⟨gE, m * 2 + 1, none⟩ = some (.int .i64 zv') := by rw [World.cell?_drewN]; exact HD.out.2
            have Hf2 : Hid (Fr (· < wH.heap.size) wH (wr.drewN nq)) := Hf.out.drewN nq
            clear f1 f2 HD Hf
            generalize wr.drewN nq = wx at *
            go_upto_region 40 with fail
            clear wm m0
            have lx := Hf2.out.size
            have al : Fr (· < wx.heap.size) wx (wx.alloc (Obj.cells #[.int .i64 zu', .int .i64 zv'] 37)) := (Fr.refl _ wx).alloc (fun _ e => e) _
            have n1 := (al.cell (World.block_lt_of_cell? _ _ c1)).trans c1
            have n2 := (al.cell (World.block_lt_of_cell? _ _ c2)).trans c2
            have n3 : (wx.alloc (Obj.cells #[.int .i64 zu', .int .i64 zv'] 37)).cell? ⟨wx.heap.size, 0, none⟩ = some (.int .i64 zu') := World.cell?_alloc_new (w := wx) _ 37 0
            have n4 : (wx.alloc (Obj.cells #[.int .i64 zu', .int .i64 zv'] 37)).cell? ⟨wx.heap.size, 1, none⟩ = some (.int .i64 zv') := World.cell?_alloc_new (w := wx) _ 37 1
            have Hf3 : Hid (Fr (· < wH.heap.size) wH (wx.alloc (Obj.cells #[.int .i64 zu', .int .i64 zv'] 37))) := Hf2.out.trans (al.mono (fun k e => by omega))
            clear c1 c2 c3 c4 Hf2 al lx
            generalize wx.alloc (Obj.cells #[.int .i64 zu', .int .i64 zv'] 37) = wy at *
            generalize wx.heap.size = gP at *
            have f1 : ∀ q, (wy.drewN q).cell? ⟨gE, m1 * 2, none⟩ = some (.int .i64 zu) := fun q => by rw [World.cell?_drewN]; exact n1
            have f2 : ∀ q, (wy.drewN q).cell? ⟨gE, m1 * 2 + 1, none⟩ = some (.int .i64 zv) := fun q => by rw [World.cell?_drewN]; exact n2
            have f3 : ∀ q, (wy.drewN q).cell? ⟨gP, 0, none⟩ = some (.int .i64 zu') := fun q => by rw [World.cell?_drewN]; exact n3
            have f4 : ∀ q, (wy.drewN q).cell? ⟨gP, 1, none⟩ = some (.int .i64 zv') := fun q => by rw [World.cell?_drewN]; exact n4
            clear n1 n2 n3 n4
            rcases Z2.out with z2 | ⟨z2, z3⟩
            · have hd : decide (zu' < zu) = true := decide_eq_true z2
              clear z2 Z2
              go_quiet (fail)
              go_wp2
              go_roundw
              case rel => exact ⟨m1 + 1, by omega, by go_num, Hf3.out.drewN _⟩
              case measure => simp [intOf]; omega
            · subst z2
              have hd : decide (zv' < zv) = true := decide_eq_true z3
              clear z3 Z2
              go_quiet (fail)
              go_wp2
              go_roundw
              case rel => exact ⟨m1 + 1, by omega, by go_num, Hf3.out.drewN _⟩
              case measure => simp [intOf]; omega
        · have e : k = P := by omega
          subst e
          have HB : Hid (Below w.heap.size w wr) := (HF.out.trans (f.mono (fun k h => Nat.lt_of_lt_of_le h HF.out.size))).below
          clear f
          go_wp2
          go_ret
          exact ⟨rfl, HB.out⟩

end Go.Proofs.Qxb6003682a

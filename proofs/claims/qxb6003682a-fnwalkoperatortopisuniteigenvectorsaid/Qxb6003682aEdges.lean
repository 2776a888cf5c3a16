import Derived.Test.Qxb6003682aAdj
namespace Go.Proofs.Qxb6003682a
open Go.RowKit
set_option linter.unusedVariables false

theorem bytes7 (a1 : Option Addr) (l1 c1 : Nat) (a2 : Option Addr) (l2 c2 : Nat) (w : World) (h1 : l1 ≤ 9223372036854775807) (h2 : l2 ≤ 9223372036854775807) :
    Calls Try.prog 7 #[.slice a1 l1 c1, .slice a2 l2 c2] w fun e w' => (∃ b, e = .returned (.bool b)) ∧ w = w' := by
  go_enter Try.func7, Try.ntmps7
  go_wp2
  all_goals (go_ret; exact ⟨⟨_, rfl⟩, rfl⟩)

theorem zzgraph (a0 : Option Addr) (l0 c0 : Nat) (a1 : Option Addr) (l1 c1 : Nat) (a2 : Option Addr) (l2 c2 : Nat) (w : World) :
    Calls Try.prog 11 #[.slice a0 l0 c0, .slice a1 l1 c1, .slice a2 l2 c2] w fun e w' => e = .returned (.pointer (some ⟨w.heap.size, 0, none⟩)) ∧ w.alloc (.cells #[.slice a0 l0 c0, .slice a1 l1 c1, .slice a2 l2 c2] 51) = w' := by
  go_enter Try.func11, Try.ntmps11
  go_wp2
  go_ret
  exact ⟨rfl, rfl⟩

/-- the pairs' cells -/
def pcs (Z : Nat → Int) : List (Nat × Nat) → List Value
  | [] => []
  | p :: ps => .int .i64 (Z p.1) :: .int .i64 (Z p.2) :: pcs Z ps
theorem pcs_append (Z : Nat → Int) : ∀ a b, pcs Z (a ++ b) = pcs Z a ++ pcs Z b
  | [], b => rfl
  | p :: ps, b => by simp [pcs, pcs_append Z ps b]
theorem pcs_length (Z : Nat → Int) : ∀ a, (pcs Z a).length = a.length * 2
  | [] => rfl
  | p :: ps => by simp [pcs, pcs_length Z ps]; omega
theorem pcs_get (Z : Nat → Int) : ∀ (a : List (Nat × Nat)) (k : Nat), k < a.length → (pcs Z a)[k * 2]? = some (.int .i64 (Z (a.getD k (0, 0)).1)) ∧ (pcs Z a)[k * 2 + 1]? = some (.int .i64 (Z (a.getD k (0, 0)).2))
  | [], k, h => by simp at h
  | p :: ps, 0, h => by simp [pcs]
  | p :: ps, k + 1, h => by
    have e := pcs_get Z ps k (by simpa using h)
    have e1 : (k + 1) * 2 = k * 2 + 1 + 1 := by omega
    rw [e1]
    simpa [pcs] using e

/-- the links of i among js, the greater ends -/
def upL (i : Nat) (js : List Nat) : List (Nat × Nat) := (js.filter (fun j => decide (i < j))).map (fun j => (i, j))
/-- the links of the first i nodes -/
def prs (L : Nat → Nat → Bool) (n : Nat) : Nat → List (Nat × Nat)
  | 0 => []
  | i + 1 => prs L n i ++ upL i (rowL L i n)
theorem upL_snoc (i : Nat) (js : List Nat) (j : Nat) : upL i (js ++ [j]) = upL i js ++ (if i < j then [(i, j)] else []) := by
  unfold upL
  rw [List.filter_append, List.map_append]
  by_cases h : i < j <;> simp [h]
theorem upL_len (i : Nat) (js : List Nat) : (upL i js).length ≤ js.length := by
  unfold upL
  rw [List.length_map]
  exact List.length_filter_le _ _
theorem prs_len (L : Nat → Nat → Bool) (n : Nat) : ∀ i, (prs L n i).length ≤ (adjL L n i).length
  | 0 => by simp [prs]
  | i + 1 => by
    have := prs_len L n i
    have := upL_len i (rowL L i n)
    simp only [prs, adjL, List.length_append]
    omega

theorem adjL_pre (L : Nat → Nat → Bool) (n : Nat) : ∀ (k i : Nat), ∃ ys, adjL L n (i + k) = adjL L n i ++ ys
  | 0, i => ⟨[], by simp⟩
  | k + 1, i => by
    obtain ⟨ys, e⟩ := adjL_pre L n k i
    exact ⟨ys ++ rowL L (i + k) n, by rw [← Nat.add_assoc, adjL, e, List.append_assoc]⟩
theorem adjL_mid (L : Nat → Nat → Bool) (n i : Nat) (hi : i < n) : ∃ ys, adjL L n n = adjL L n i ++ (rowL L i n ++ ys) := by
  obtain ⟨ys, e⟩ := adjL_pre L n (n - (i + 1)) (i + 1)
  rw [show i + 1 + (n - (i + 1)) = n by omega] at e
  exact ⟨ys, by rw [e, adjL, List.append_assoc]⟩
theorem adjL_at (L : Nat → Nat → Bool) (n i m : Nat) (hi : i < n) (hm : m < (rowL L i n).length) : (adjL L n n).getD ((adjL L n i).length + m) 0 = (rowL L i n).getD m 0 := by
  obtain ⟨ys, e⟩ := adjL_mid L n i hi
  rw [e, List.getD_eq_getElem?_getD, List.getElem?_append_right (by omega), Nat.add_sub_cancel_left, List.getElem?_append_left hm, List.getD_eq_getElem?_getD]
theorem rowL_lt (L : Nat → Nat → Bool) (i n m : Nat) (hm : m < (rowL L i n).length) : (rowL L i n).getD m 0 < n := by
  rw [List.getD_eq_getElem?_getD, List.getElem?_eq_getElem hm]
  have := List.getElem_mem hm
  unfold rowL at this
  rw [List.mem_filter, List.mem_range] at this
  exact this.1

structure EI (w wr : World) (Z : Nat → Int) (ps : List (Nat × Nat)) (gE cE : Nat) : Prop where
  own : wr.ownsRow 0 37 2 (.slice (some ⟨gE, 0, none⟩) ps.length cE) ps.length (pcs Z ps)
  lo : w.heap.size ≤ gE
  fr : Fr (· < w.heap.size) w wr
theorem Fr.drewN {F : Nat → Prop} {a w : World} (h : Fr F a w) (n : Nat) : Fr F a (w.drewN n) := ⟨h.os, h.tape, h.output, h.size, h.block⟩
theorem EI.drewN {w wr : World} {Z : Nat → Int} {ps : List (Nat × Nat)} {gE cE : Nat} (h : EI w wr Z ps gE cE) (q : Nat) : EI w (wr.drewN q) Z ps gE cE :=
  ⟨own_keep h.own (fun k _ => by rw [World.heap_drewN]), h.lo, h.fr.drewN q⟩
theorem two_new (w : World) (x y : Value) (t : TypeId) (H : Nat) (hH : w.heap.size = H) : ∀ j u, [x, y][j]? = some u → (w.alloc (.cells #[x, y] t)).cell? ((⟨H, 0, none⟩ : Addr).add j) = some u := by
  subst hH
  intro j u h
  have hc : (w.alloc (.cells #[x, y] t)).cell? ⟨w.heap.size, j, none⟩ = #[x, y][j]? := World.cell?_alloc_new (w := w) #[x, y] t j
  simp only [Addr.add_lit, Nat.zero_add]
  rw [hc, ← h]
  simp
theorem EI.push {w wr w2 : World} {Z : Nat → Int} {ps : List (Nat × Nat)} {gE cE : Nat} (h : EI w wr Z ps gE cE) {o : Obj} {i j G C : Nat}
    (hown : w2.ownsRow 0 37 2 (.slice (some ⟨G, 0, none⟩) (ps.length + 1) C) (ps.length + 1) (pcs Z ps ++ [.int .i64 (Z i), .int .i64 (Z j)])) (hg : (wr.alloc o).grownBy w2 (some gE)) (hat : gE = G ∨ G = wr.heap.size + 1) : EI w w2 Z (ps ++ [(i, j)]) G C := by
  have hs := h.fr.size
  refine ⟨?_, ?_, ?_⟩
  · rw [pcs_append]
    simpa [pcs] using hown
  · rcases hat with rfl | e
    · exact h.lo
    · omega
  · exact (h.fr.alloc (fun k hk => by omega) o).grown hg (fun k hk => by simp; omega) (fun k e => by cases e; have := h.lo; omega)

theorem Try.info37 : (Try.prog.info? 37).map (fun i => (i.zero, i.size, i.bytes)) = some (some (.agg #[.int .i64 0, .int .i64 0]), 2, 16) := by kernel_rfl

/-- a graph that lies in memory -/
structure Gr (w : World) (b : Nat) (L : Nat → Nat → Bool) (n : Nat) (Z : Nat → Int) (aI : Option Addr) (cI gO gA cA : Nat) : Prop where
  c0 : w.cell? ⟨b, 0, none⟩ = some (.slice aI n cI)
  c1 : w.cell? ⟨b, 1, none⟩ = some (.slice (some ⟨gO, 0, none⟩) (n + 1) (n + 1))
  c2 : w.cell? ⟨b, 2, none⟩ = some (.slice (some ⟨gA, 0, none⟩) (adjL L n n).length cA)
  ids : Cel w aI n cI (fun i => .int .i64 (Z i))
  off : ∀ i, i ≤ n → w.cell? ⟨gO, i, none⟩ = some (.int .i64 ((adjL L n i).length : Int))
  adj : ∀ p, p < (adjL L n n).length → w.cell? ⟨gA, p, none⟩ = some (.int .i32 (((adjL L n n).getD p 0 : Nat) : Int))
  cap : (adjL L n n).length ≤ cA ∧ cA ≤ maxLen
theorem Gr.fr {w w' : World} {b : Nat} {L : Nat → Nat → Bool} {n : Nat} {Z : Nat → Int} {aI : Option Addr} {cI gO gA cA : Nat} (h : Gr w b L n Z aI cI gO gA cA) (f : Fr (· < w.heap.size) w w') : Gr w' b L n Z aI cI gO gA cA :=
  ⟨(f.cell (World.block_lt_of_cell? _ _ h.c0)).trans h.c0, (f.cell (World.block_lt_of_cell? _ _ h.c1)).trans h.c1, (f.cell (World.block_lt_of_cell? _ _ h.c2)).trans h.c2, h.ids.fr f (fun _ e => e),
    fun i hi => (f.cell (World.block_lt_of_cell? _ _ (h.off i hi))).trans (h.off i hi), fun i hi => (f.cell (World.block_lt_of_cell? _ _ (h.adj i hi))).trans (h.adj i hi), h.cap⟩

set_option maxRecDepth 100000 in
set_option maxHeartbeats 1000000 in
theorem edges_any (b : Nat) (L : Nat → Nat → Bool) (n : Nat) (Z : Nat → Int) (aI : Option Addr) (cI gO gA cA : Nat) (w : World) (hn : n ≤ 64) (H : Gr w b L n Z aI cI gO gA cA) :
    Calls Try.prog 12 #[.pointer (some ⟨b, 0, none⟩)] w fun e w' => ∃ gE cE, e = .returned (.slice (some ⟨gE, 0, none⟩) (prs L n n).length cE) ∧ EI w w' Z (prs L n n) gE cE := by
  obtain ⟨i0, hi, hz0, hz1, hz2⟩ := info_parts Try.info37
  have d0 := H.c0
  have d2 := H.c2
  have hT := adjL_le L n n (Nat.le_refl _) hn
  have HH := Hid.mk H
  clear H
  generalize hTT : (adjL L n n).length = T at *
  go_enter Try.func12, Try.ntmps12
  go_wp2_with (at_make; refine wpList_make_own _ rfl _ _ 33 rfl 0 37 i0 (.agg #[.int .i64 0, .int .i64 0]) 2 Try.underlying33 hi hz0 hz1 _ _ _ (T / 2) rfl rfl rfl (by rw [hz2]; omega) (by unfold maxLen; omega) (Nat.zero_le _) ?_)
  intro wA hown hg
  have A0 : EI w wA Z (prs L n 0) w.heap.size (T / 2) := ⟨hown, Nat.le_refl _, (Fr.refl _ _).grown hg (fun _ h => h) (by simp)⟩
  have d0' : wA.cell? ⟨b, 0, none⟩ = some (.slice aI n cI) := (A0.fr.cell (World.block_lt_of_cell? _ _ d0)).trans d0
  clear hown hg d0 d2 hi hz0 hz1 hz2
  generalize T / 2 = T2 at *
  have HA := Hid.mk A0
  clear A0
  generalize hB : w.heap.size = B at *
  go_wp2
  go_loopw [3, 20] (fun s i wr => ∃ (k gE cE : Nat), k ≤ n ∧ i = .int .i64 k ∧ s = .slice (some ⟨gE, 0, none⟩) (prs L n k).length cE ∧ EI w wr Z (prs L n k) gE cE) (fun _ i _ => n - (intOf i).toNat)
  case atStart => exact ⟨0, B, T2, Nat.zero_le _, rfl, rfl, HA.out⟩
  case round =>
    clear HA d0'
    obtain ⟨k, gE, cE, hk, rfl, rfl, I⟩ := hrel
    by_cases hlt : k < n
    · have G := HH.out.fr I.fr
      obtain ⟨x, rfl, hc⟩ := G.ids.get k hlt
      have d0 := G.c0
      have d1 := G.c1
      have d2 := G.c2
      have o0 := G.off k (by omega)
      have o1 := G.off (k + 1) (by omega)
      obtain ⟨cap1, cap2⟩ := G.cap
      rw [hTT] at d2 cap1
      have HG := Hid.mk G
      have HI := Hid.mk I
      clear G I
      generalize hP : (prs L n k).length = P at *
      have hO1 : (adjL L n (k + 1)).length = (adjL L n k).length + (rowL L k n).length := by rw [adjL, List.length_append]
      have hO2 : (adjL L n (k + 1)).length ≤ T := by
        obtain ⟨ys, e⟩ := adjL_mid L n k hlt
        rw [← hTT, e, hO1]
        simp
      rw [hO1] at o1 hO2
      generalize hlo : (adjL L n k).length = lo at *
      generalize hR : (rowL L k n).length = R at *
      clear hO1
      have HE := Hid.mk (And.intro hP (And.intro hlo hR))
      clear hP hlo hR
      unfold maxLen at cap2
      generalize hZ0 : Z k = z at *
      have HZ0 : Hid (z = Z k) := hZ0.symm
      clear hZ0
      have f0 : ∀ m, (wr.drewN m).cell? ⟨b, 0, none⟩ = some (.slice (some x) n cI) := fun m => by rw [World.cell?_drewN]; exact d0
      have f1 : ∀ m, (wr.drewN m).cell? ⟨b, 1, none⟩ = some (.slice (some ⟨gO, 0, none⟩) (n + 1) (n + 1)) := fun m => by rw [World.cell?_drewN]; exact d1
      have f2 : ∀ m, (wr.drewN m).cell? ⟨b, 2, none⟩ = some (.slice (some ⟨gA, 0, none⟩) T cA) := fun m => by rw [World.cell?_drewN]; exact d2
      have f3 : ∀ m, (wr.drewN m).cell? ⟨gO, k, none⟩ = some (.int .i64 lo) := fun m => by rw [World.cell?_drewN]; exact o0
      have f4 : ∀ m, (wr.drewN m).cell? ⟨gO, k + 1, none⟩ = some (.int .i64 ((lo + R : Nat) : Int)) := fun m => by rw [World.cell?_drewN]; exact o1
      have wk : IntKind.i64.wrap ((k : Int) + 1) = ((k + 1 : Nat) : Int) := by rw [IntKind.wrap_i64]; omega
      have k1 : ((k + 1 : Nat) : Int) < ((n + 1 : Nat) : Int) := by omega
      have k2 : (k : Int) < ((n + 1 : Nat) : Int) := by omega
      clear d1 d2 o0 o1
      go_upto_region 5 with fail
      clear hc d0
      go_quiet (fail)
      have hAD : 0 < R → (if cA = lo then some (⟨gA, 0, none⟩ : Addr) else some ⟨gA, lo, none⟩) = some ⟨gA, lo, none⟩ := fun h => by rw [if_neg (by omega)]
      generalize (if cA = lo then some (⟨gA, 0, none⟩ : Addr) else some ⟨gA, lo, none⟩) = ad at *
      have hRR : lo + R - lo = R := by omega
      rw [hRR]
      clear hRR
      have HAD := Hid.mk hAD
      clear hAD f0 f1 f2 f3 f4 wk k1 k2
      have HI2 : Hid (EI w (wr.drewN nq) Z (prs L n k) gE cE) := HI.out.drewN nq
      have HG2 : Hid (Gr (wr.drewN nq) b L n Z (some x) cI gO gA cA) := HH.out.fr HI2.out.fr
      clear HI HG
      generalize wr.drewN nq = wd at *
      go_wp2
      go_loopw [3, 46] (fun s i wr => ∃ (m gE cE : Nat), m ≤ R ∧ i = .int .i64 m ∧ s = .slice (some ⟨gE, 0, none⟩) (prs L n k ++ upL k ((rowL L k n).take m)).length cE ∧ EI w wr Z (prs L n k ++ upL k ((rowL L k n).take m)) gE cE) (fun _ i _ => R - (intOf i).toNat)
      case atStart => exact ⟨0, gE, cE, Nat.zero_le _, rfl, by rw [List.take_zero]; simp [upL, HE.out.1], by simpa [upL] using HI2.out⟩
      case round =>
        clear HI2
        obtain ⟨m, gE, cE, hm, rfl, rfl, I⟩ := hrel
        have hlen : (prs L n k ++ upL k ((rowL L k n).take m)).length ≤ T := by
          have h1 := prs_len L n k
          have h2 := upL_len k ((rowL L k n).take m)
          rw [List.length_take] at h2
          rw [List.length_append]
          have h3 := HE.out.2.1
          have h4 := HE.out.2.2
          omega
        by_cases hmR : m < R
        · have hmR' : m < (rowL L k n).length := by rw [HE.out.2.2]; exact hmR
          have G := HH.out.fr I.fr
          have hjn := rowL_lt L k n m hmR'
          have hat := adjL_at L n k m hlt hmR'
          have ca := G.adj ((adjL L n k).length + m) (by rw [hTT, HE.out.2.1]; omega)
          rw [hat, HE.out.2.1] at ca
          obtain ⟨x', ex, cj⟩ := G.ids.get _ hjn
          simp at ex
          subst ex
          have d0 := G.c0
          have HT : Hid (prs L n k ++ upL k ((rowL L k n).take (m + 1)) = (prs L n k ++ upL k ((rowL L k n).take m)) ++ (if k < (rowL L k n).getD m 0 then [(k, (rowL L k n).getD m 0)] else [])) := by
            rw [List.take_add_one, List.append_assoc, List.getElem?_eq_getElem hmR']
            rw [show (rowL L k n)[m]'hmR' = (rowL L k n).getD m 0 by rw [List.getD_eq_getElem?_getD, List.getElem?_eq_getElem hmR']; rfl]
            rw [show (some ((rowL L k n).getD m 0)).toList = [(rowL L k n).getD m 0] from rfl, upL_snoc]
            exact rfl
          have eAD := HAD.out (by omega)
          subst eAD
          clear HAD hat HG2 G hmR'
          generalize (rowL L k n).getD m 0 = j at *
          generalize prs L n k ++ upL k ((rowL L k n).take m) = ps at *
          generalize hP : ps.length = P at *
          have HI := Hid.mk I
          clear I
          by_cases hkj : k < j
          · obtain ⟨i0, hi, hz0, hz1, hz2⟩ := info_parts Try.info37
            have o1 : ∀ o, (wr.alloc o).ownsRow 0 37 2 (.slice (some ⟨gE, 0, none⟩) P cE) P (pcs Z ps) := fun o => by have := HI.out.own.alloc o; rw [hP] at this; exact this
            have HPP := Hid.mk hP
            clear hP
            have HZ : Hid (z = Z k) := HZ0
            have hj32 : IntKind.i64.wrap (j : Int) = (j : Int) := by rw [IntKind.wrap_i64]; omega
            go_wp2_with (at_builtin; refine wpList_append_lies _ rfl (.tmp 54) (.tmp 64) 33 rfl 0 37 i0 (.agg #[.int .i64 0, .int .i64 0]) 2 16 Try.underlying33 hi hz0 hz1 hz2 rfl (by decide) _ _ _ rfl (o1 _) ⟨wr.heap.size, 0, none⟩ 1 1 [.int .i64 z, .int .i64 (Z j)] rfl rfl ?c1 ?c2 (by decide) ?c3 ?c4 (Nat.zero_le _) (wr.heap.size + 1) ?c5 ?_)
            case c1 => exact two_new _ _ _ _ _ rfl
            case c2 => exact ints_oneCell .i64 [_, _]
            case c3 => unfold maxLen; omega
            case c4 => omega
            case c5 => simp
            intro G C2 w2 hown hg hat hlt2
            rw [if_pos hkj] at HT
            have HI2 : Hid (EI w w2 Z (prs L n k ++ upL k ((rowL L k n).take (m + 1))) G C2) := by
              rw [HT.out]
              rw [HZ.out, ← HPP.out] at hown
              exact HI.out.push hown hg (by simpa [Value.ownBlock] using hat)
            have HEq : Hid ((prs L n k ++ upL k ((rowL L k n).take (m + 1))).length = P + 1) := by rw [HT.out, List.length_append, HPP.out]; exact rfl
            clear HT HI o1 hown hg hat hi hz0 hz1 hz2 HPP HZ d0 ca cj
            go_wp2
            go_roundw
            case rel => exact ⟨m + 1, G, C2, by omega, by go_num, by rw [HEq.out], HI2.out⟩
            case measure => simp [intOf]; omega
          · rw [if_neg hkj] at HT
            have HI2 : Hid (EI w wr Z (prs L n k ++ upL k ((rowL L k n).take (m + 1))) gE cE) := by
              rw [HT.out, List.append_nil]
              exact HI
            have HEq : Hid ((prs L n k ++ upL k ((rowL L k n).take (m + 1))).length = P) := by rw [HT.out, List.append_nil]; exact hP
            clear HT HI hP d0 cj
            have hj32 : IntKind.i64.wrap (j : Int) = (j : Int) := by rw [IntKind.wrap_i64]; omega
            go_wp2
            go_roundw
            case rel => exact ⟨m + 1, gE, cE, by omega, by go_num, by rw [HEq.out], HI2.out⟩
            case measure => simp [intOf]; omega
        · have e : m = R := by omega
          subst e
          have eT : (rowL L k n).take m = rowL L k n := by rw [← HE.out.2.2, List.take_length]
          rw [eT] at I hlen ⊢
          have HI2 : Hid (EI w wr Z (prs L n (k + 1)) gE cE) := I
          have HEq : Hid ((prs L n (k + 1)).length = (prs L n k ++ upL k (rowL L k n)).length) := rfl
          clear I hlen eT HAD HE HZ0
          generalize (prs L n k ++ upL k (rowL L k n)).length = P at *
          clear HH hTT HG2
          go_wp2
          go_roundw
          case rel => exact ⟨k + 1, gE, cE, by omega, by go_num, by rw [HEq.out], HI2.out⟩
          case measure => simp [intOf]; omega
    · have e : k = n := by omega
      subst e
      have HI := Hid.mk I
      clear I HH
      generalize hN : (prs L k k).length = N at *
      have HN := Hid.mk hN
      clear hN hTT
      go_wp2
      go_ret
      exact ⟨gE, cE, by rw [HN.out]; rfl, HI.out⟩

end Go.Proofs.Qxb6003682a

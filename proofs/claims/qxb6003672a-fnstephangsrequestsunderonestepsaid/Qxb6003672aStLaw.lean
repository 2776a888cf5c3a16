import Derived.Test.Qxb6003672aStPlain
import Derived.Test.Qxb6003672aFields
import Derived.BigGuard
import Derived.Deep.RegionHeld3
namespace Go.Proofs.Qxb6003672a
open Go.RowKit
set_option linter.unusedVariables false

theorem Fr.drewN {F : Nat → Prop} {a w : World} (h : Fr F a w) (n : Nat) : Fr F a (w.drewN n) := ⟨h.os, h.tape, h.output, h.size, h.block⟩
/-- a row of numbers, by cells -/
def Cs (w : World) (a : Option Addr) (m : Nat) (z : Nat → Int) : Prop := ∀ j, j < m → ∃ g, a = some ⟨g, 0, none⟩ ∧ w.cell? ⟨g, j, none⟩ = some (.int .i64 (z j))
theorem Cs.fr {w w' : World} {a : Option Addr} {m : Nat} {z : Nat → Int} (h : Cs w a m z) (f : Fr (· < w.heap.size) w w') : Cs w' a m z := fun j hj => by
  obtain ⟨g, e, c⟩ := h j hj
  exact ⟨g, e, (f.cell (p := ⟨g, j, none⟩) (World.block_lt_of_cell? _ _ c)).trans c⟩
theorem Row.cs {w : World} {a : Option Addr} {n c : Nat} {zs : List Int} (h : Row w (.slice a n c) n zs) {z : Nat → Int} (hz : ∀ j, j < n → zs.getD j 0 = z j) : Cs w a n z := fun j hj => by
  obtain ⟨g, e, _, c, _⟩ := h.get j hj
  exact ⟨g, e, by rw [← hz j hj]; exact c⟩
theorem Cs.get {w : World} {g m : Nat} {z : Nat → Int} (h : Cs w (some ⟨g, 0, none⟩) m z) (j : Nat) (hj : j < m) : w.cell? ⟨g, j, none⟩ = some (.int .i64 (z j)) := by
  obtain ⟨g', e, c⟩ := h j hj
  simp at e
  subst e
  exact c
theorem Cs.form {w : World} {a : Option Addr} {m : Nat} {z : Nat → Int} (h : Cs w a m z) (hm : 0 < m) : ∃ g, a = some ⟨g, 0, none⟩ := by
  obtain ⟨g, e, _⟩ := h 0 hm
  exact ⟨g, e⟩

/-- all that the checks read -/
structure SG (w : World) (n v k m : Nat) (d : Int) (rs : Nat → List Int) (cc xs : List Int) (g1 g3 g4 g5 : Nat) (a2 a6 aC aR : Option Addr) : Prop where
  r1 : Cs w (some ⟨g1, 0, none⟩) (n + 1) (fun j => if v < j then (m : Int) else 0)
  r2 : Cs w a2 m (fun j => cc.getD j 0)
  r3 : Cs w (some ⟨g3, 0, none⟩) (n + 1 + k) (NF n v d rs)
  r4 : Cs w (some ⟨g4, 0, none⟩) (n + 1 + k) (UF n v)
  r5 : Cs w (some ⟨g5, 0, none⟩) (n + 1) (fun j => (lo (kz cc) j m : Int))
  r6 : Cs w a6 m (fun j => xs.getD j 0)
  rC : Cs w aC m (fun j => cc.getD j 0)
  rR : Rws w aR k rs
theorem SG.fr {w w' : World} {n v k m : Nat} {d : Int} {rs : Nat → List Int} {cc xs : List Int} {g1 g3 g4 g5 : Nat} {a2 a6 aC aR : Option Addr} (h : SG w n v k m d rs cc xs g1 g3 g4 g5 a2 a6 aC aR) (f : Fr (· < w.heap.size) w w') : SG w' n v k m d rs cc xs g1 g3 g4 g5 a2 a6 aC aR :=
  ⟨h.r1.fr f, h.r2.fr f, h.r3.fr f, h.r4.fr f, h.r5.fr f, h.r6.fr f, h.rC.fr f, h.rR.fr f (fun _ e => e)⟩

theorem ccx_len (rs : Nat → List Int) (k : Nat) (hl : ∀ i, i < k → (rs i).length ≤ 128) : ∀ i, i ≤ k → (ccx rs i).length ≤ 128 * i
  | 0, _ => by simp [ccx]
  | i + 1, hi => by
    have := ccx_len rs k hl i (by omega)
    have := hl i (by omega)
    simp [ccx]
    omega

/-- 'x[0:len(x)]' -/
theorem slice_all (a2 : Option Addr) (M c2 : Nat) (hM : M ≤ c2) (hf : (a2 = none ∧ M = 0 ∧ c2 = 0) ∨ ∃ g2, a2 = some ⟨g2, 0, none⟩) (W : World) :
    (Instr.slice 22 (.slice a2 M c2) (some (.int .i64 0)) (some (.int .i64 (M : Int))) none).run Try.prog W = .ok (.slice a2 M c2) W := by
  rcases hf with ⟨rfl, rfl, rfl⟩ | ⟨g2, rfl⟩
  · simp [go_sem, Try.underlying22]
  · simp [go_sem, Try.underlying22]
    intro h
    omega

set_option maxRecDepth 100000 in
set_option maxHeartbeats 8000000 in
theorem law5 (n v spare : Int) (a : Option Addr) (k c : Nat) (rs : Nat → List Int) (w : World) (hk : k ≤ maxLen) (hl : ∀ i, i < k → (rs i).length ≤ maxLen) (h : RwsI w a k rs) (ha : (a = none ∧ k = 0 ∧ c = 0) ∨ ∃ x, a = some x) :
    Calls Try.prog 5 #[.int .i64 n, .int .i64 v, .int .i64 spare, .slice a k c] w fun e w' => e = .returned (.bool true) ∧ Below w.heap.size w w' := by
  have hR := h.rws
  go_enter Try.func5, Try.ntmps5
  go_wp2_with fail
  refine (bytes22 n v spare a k c rs w hk hl hR).mono ?_
  rintro e w' ⟨⟨b1, rfl⟩, rfl⟩
  cases b1
  · clear h hR hl hk
    go_wp2
    go_ret
    exact ⟨rfl, Below.refl _ _⟩
  go_wp2_with fail
  refine (words_any a k c rs w hk hl hR).mono ?_
  rintro e w' ⟨⟨t1, rfl⟩, rfl⟩
  by_cases c1 : 65536 < t1
  · clear h hR hl hk
    go_wp2
    go_ret
    exact ⟨rfl, Below.refl _ _⟩
  go_wp2_with fail
  refine (short_any a k c rs w hk hl hR).mono ?_
  rintro e w' ⟨⟨b2, rfl, hs⟩, rfl⟩
  cases b2
  · clear h hR hl hk hs
    go_wp2
    go_ret
    exact ⟨rfl, Below.refl _ _⟩
  obtain ⟨hk2, hl2⟩ := hs rfl
  have HL2 := Hid.mk' hl2
  clear hs hl2
  go_wp2_with fail
  refine (fits_any n a k c rs w hk hl hR).mono ?_
  rintro e w' ⟨⟨b3, rfl, hs⟩, rfl⟩
  cases b3
  · clear h hR hl hk hs
    go_wp2
    go_ret
    exact ⟨rfl, Below.refl _ _⟩
  have HFit := Hid.mk' (hs rfl)
  have HIn := Hid.mk' h
  clear hs hl hk hR h
  by_cases n1 : n < 1
  · go_wp2
    go_ret
    exact ⟨rfl, Below.refl _ _⟩
  by_cases n2 : 1024 < n
  · go_wp2
    go_ret
    exact ⟨rfl, Below.refl _ _⟩
  by_cases n3 : v < 0
  · go_wp2
    go_ret
    exact ⟨rfl, Below.refl _ _⟩
  by_cases n4 : n ≤ v
  · go_wp2
    go_ret
    exact ⟨rfl, Below.refl _ _⟩
  by_cases n5 : spare < -65536
  · go_wp2
    go_ret
    exact ⟨rfl, Below.refl _ _⟩
  by_cases n6 : 65536 < spare
  · go_wp2
    go_ret
    exact ⟨rfl, Below.refl _ _⟩
  obtain ⟨N, rfl⟩ : ∃ N : Nat, n = (N : Int) := ⟨n.toNat, by omega⟩
  obtain ⟨V, rfl⟩ : ∃ V : Nat, v = (V : Int) := ⟨v.toNat, by omega⟩
  have N1 : 1 ≤ N := by omega
  have N2 : N ≤ 1024 := by omega
  have N4 : V < N := by omega
  go_wp2_with fail
  refine (cloneRows_any a k c rs w hk2 HL2.out HIn.out ha).mono ?_
  rintro e wA ⟨aR, cR, rfl, hR, fA⟩
  clear HIn ha n1 n2 n3 n4
  have HR := Hid.mk' hR
  have HFA := Hid.mk' fA
  clear hR fA
  go_upto_block 0 with fail
  go_cut [10] (fun s10 wc => ∃ aC cC, s10 = .slice aC (ccx rs k).length cC ∧ Row wc (.slice aC (ccx rs k).length cC) (ccx rs k).length (ccx rs k) ∧ Fr (· < wA.heap.size) wA wc)
  case first =>
    as_aux_lemma =>
      go_wp2
      go_loopw [10, 11] (fun s i wr => ∃ (t : Nat) (aC : Option Addr) (cC : Nat), t ≤ k ∧ i = .int .i64 t ∧ s = .slice aC (ccx rs t).length cC ∧ Row wr (.slice aC (ccx rs t).length cC) (ccx rs t).length (ccx rs t) ∧ (∀ g, (Value.slice aC (ccx rs t).length cC).ownBlock = some g → wA.heap.size ≤ g) ∧ Fr (· < wA.heap.size) wA wr) (fun _ i _ => k - (intOf i).toNat)
      case atStart => exact ⟨0, none, 0, Nat.zero_le _, rfl, rfl, World.ownsRow_nil _ _ _ _, by simp [Value.ownBlock], Fr.refl _ _⟩
      case round =>
        obtain ⟨t, aC, cC, ht, rfl, rfl, R, hg, f⟩ := hrel
        by_cases hlt : t < k
        · obtain ⟨x, ai, ci, rfl, hcW, hrow⟩ := HR.out t hlt
          have hlr := HL2.out t hlt
          have hcl := ccx_len rs k HL2.out t ht
          have HRow := Hid.mk' hrow
          have HI := Hid.mk' (And.intro R (And.intro hg f))
          have hlc := World.block_lt_of_cell? _ _ hcW
          clear R hg f hrow
          generalize hRL : (rs t).length = RL at *
          have HRL := Hid.mk' hRL
          clear hRL
          generalize hS : (ccx rs t).length = S at *
          have HS := Hid.mk' hS
          clear hS
          go_wp2
          go_loopw [10, 12] (fun s i wr => ∃ (j : Nat) (aC : Option Addr) (cC : Nat), j ≤ RL ∧ i = .int .i64 j ∧ s = .slice aC (S + j) cC ∧ Row wr (.slice aC (S + j) cC) (S + j) (ccx rs t ++ (rs t).take j) ∧ (∀ g, (Value.slice aC (S + j) cC).ownBlock = some g → wA.heap.size ≤ g) ∧ Fr (· < wA.heap.size) wA wr) (fun _ i _ => RL - (intOf i).toNat)
          case atStart => exact ⟨0, aC, cC, Nat.zero_le _, rfl, rfl, by simpa using HI.out.1, HI.out.2.1, HI.out.2.2⟩
          case round =>
            clear HI
            obtain ⟨j, aC, cC, hj, rfl, rfl, R, hg, f⟩ := hrel
            have hc := (f.cell (p := x.add t) hlc).trans hcW
            by_cases hjl : j < RL
            · obtain ⟨y, rfl, hyW⟩ := HRow.out j hjl
              have hy := (f.cell (p := y.add j) (World.block_lt_of_cell? _ _ hyW)).trans hyW
              obtain ⟨i0, hi, hz0, hz1, hz2⟩ := info_parts Try.info3
              have o1 : ∀ o, (wr.alloc o).ownsRow 0 3 1 (.slice aC (S + j) cC) (S + j) ((ccx rs t ++ (rs t).take j).map (Value.int .i64)) := fun o => R.alloc o
              have hsz := f.size
              have HI := Hid.mk' (And.intro R (And.intro hg f))
              have HT : Hid (ccx rs t ++ (rs t).take (j + 1) = (ccx rs t ++ (rs t).take j) ++ [(rs t).getD j 0]) := by
                have hj2 : j < (rs t).length := by rw [HRL.out]; exact hjl
                rw [List.take_succ_eq_append_getElem hj2, ← List.append_assoc]
                simp [List.getD, hj2, Hid]
              clear R hg f hyW HRow
              generalize (rs t).getD j 0 = z at *
              go_wp2_with (at_builtin; refine wpList_append_lies _ rfl (.tmp 94) (.tmp 102) 22 rfl 0 3 i0 (.int .i64 0) 1 8 Try.underlying22 hi hz0 hz1 hz2 rfl (by decide) _ _ _ rfl (o1 _) ⟨wr.heap.size, 0, none⟩ 1 1 [.int .i64 z] rfl rfl ?c1 ?c2 (by decide) ?c3 ?c4 (Nat.zero_le _) (wr.heap.size + 1) ?c5 ?_)
              case c1 => exact one_new _ _ _ _ rfl
              case c2 => exact ints_oneCell .i64 [_]
              case c3 => unfold maxLen; omega
              case c4 => omega
              case c5 => simp
              intro G C2 w2 hown hgr hat hlt2
              have HE : Hid (Row w2 (.slice (some ⟨G, 0, none⟩) (S + (j + 1)) C2) (S + (j + 1)) (ccx rs t ++ (rs t).take (j + 1)) ∧ wA.heap.size ≤ G ∧ Fr (· < wA.heap.size) wA w2) := by
                refine ⟨?_, ?_, ?_⟩
                · rw [HT.out, ← Nat.add_assoc]
                  unfold Row
                  simpa using hown
                · rcases hat with e | e
                  · exact HI.out.2.1 G e
                  · omega
                · exact (HI.out.2.2.alloc (fun q hq => by omega) _).grown hgr (fun q hq => by simp; omega) (fun q e => by have := HI.out.2.1 q e; omega)
              clear HT HI o1 hown hgr hat hi hz0 hz1 hz2 hy hc
              go_wp2
              go_roundw
              case rel => exact ⟨j + 1, _, C2, by omega, by go_num, rfl, HE.out.1, by simp [Value.ownBlock]; exact HE.out.2.1, HE.out.2.2⟩
              case measure => simp [intOf]; omega
            · have e : j = RL := by omega
              subst e
              have HE : Hid ((ccx rs (t + 1)).length = S + j ∧ Row wr (.slice aC (S + j) cC) (S + j) (ccx rs (t + 1))) := by
                have e1 : ccx rs (t + 1) = ccx rs t ++ (rs t).take j := by
                  rw [← HRL.out, List.take_length]
                  rfl
                rw [e1]
                exact ⟨R.len, R⟩
              have HI := Hid.mk' (And.intro hg f)
              clear R hg f
              go_wp2
              go_roundw
              case rel => exact ⟨t + 1, aC, cC, by omega, by go_num, by rw [HE.out.1], by rw [HE.out.1]; exact HE.out.2, by rw [HE.out.1]; exact HI.out.1, HI.out.2⟩
              case measure => simp [intOf]; omega
        · have e : t = k := by omega
          subst e
          have HI := Hid.mk' (And.intro R f)
          clear R f hg
          generalize hS : (ccx rs t).length = S at *
          have HS := Hid.mk' hS
          clear hS
          go_wp2
          go_meet
          case rel => exact ⟨aC, cC, rfl, HI.out.1, HI.out.2⟩
  case rest =>
    obtain ⟨aC, cC, rfl, RC, fC⟩ := hcut
    have hRC : Rws wc aR k rs := HR.out.fr fC (fun _ e => e)
    have fW : Fr (· < w.heap.size) w wc := HFA.out.trans (fC.mono (fun q hq => Nat.lt_of_lt_of_le hq HFA.out.size))
    have hmb := ccx_len rs k HL2.out k (Nat.le_refl _)
    have hwl := wsx_cc N V rs k
    have hmem := fun x hx => ccx_mem rs (N : Int) x k HFit.out hx
    have HRC := Hid.mk' RC
    have HFW := Hid.mk' fW
    have HMEM := Hid.mk' hmem
    have HWL := Hid.mk' hwl
    clear RC fW fC HR HFA hmem hwl HFit
    generalize hM : (ccx rs k).length = M at *
    have HM := Hid.mk' hM
    clear hM
    go_wp2_with fail
    refine (new_any N wc (by omega)).mono ?_
    rintro e wD ⟨b, rfl, hBS, fD⟩
    have HB1 := Hid.mk' (And.intro hBS fD)
    clear hBS fD
    go_wp2_with fail
    refine (step_any b N V spare aR k cR rs wc wD HB1.out.2.size HB1.out.1 HB1.out.2 hRC N4 N2 hk2 HL2.out ⟨by omega, by omega⟩).mono ?_
    rintro e wE ⟨rfl, hBE, fE⟩
    have HB2 := Hid.mk' (And.intro hBE fE)
    clear hBE fE HB1
    go_wp2_with fail
    refine (graph_pos _ b N _ _ _ wE (fun q e => by have := HB2.out.2.size; omega) HB2.out.1 (by omega) (by omega) (by rw [ndx_len]; omega) (by rw [upx_len]; omega) (by rw [HWL.out]; omega) (fun e he => ?_)).mono ?_
    · obtain ⟨t, ht, et⟩ := List.getElem_of_mem he
      have ht2 : t < (ccx rs k).length := by rw [HM.out, ← HWL.out]; exact ht
      have h1 := wsx_get N V rs k t ht2
      rw [show (wsx N V rs k).getD t (0, 0, 0) = (wsx N V rs k)[t] by simp [List.getD, ht], et] at h1
      have h2 := HMEM.out _ (getD_mem ht2)
      rw [h1]
      simp only
      omega
    rintro e wF hO
    obtain ⟨a1, c1, a2, c2, a3, c3, a4, c4, a5, c5, a6, c6, tos, xs, rfl, r1, r2, r3, r4, r5, r6, f1, f2, fF⟩ := hO
    rw [ndx_len] at r3
    rw [upx_len] at r4
    rw [HWL.out] at r1 r2 r5 r6 f1 f2
    rw [ndx_len, upx_len, HWL.out]
    have fEF : Fr (· < wc.heap.size) wc wF := HB2.out.2.trans fF
    have HS1 := Hid.mk' (And.intro r1 (And.intro r2 (And.intro r3 (And.intro r4 (And.intro r5 (And.intro r6 (And.intro f1 (And.intro f2 fEF))))))))
    clear r1 r2 r3 r4 r5 r6 f1 f2 fF fEF HB2
    go_wp2_with fail
    refine (fields_any _ _ _ _ _ _ _ _ _ _ _ _ _ _ _ _ _ _ _).mono ?_
    rintro e wH ⟨rfl, fH⟩
    obtain ⟨r1, r2, r3, r4, r5, r6, f1, f2, fEF⟩ := HS1.out
    clear HS1
    have hGr := step_graph (n := N) (v := V) (k := k) (rs := rs) (tos := tos) (xs := xs) (by rw [HM.out]; exact f1) (by rw [HM.out]; exact f2)
    obtain ⟨et, hlo1, hlo2, hxs, hcnt⟩ := hGr
    rw [HM.out] at hlo1 hlo2 hxs hcnt
    have fcH : Fr (· < wc.heap.size) wc wH := fEF.trans (fH.mono (fun q hq => by have := fEF.size; omega))
    have q1 := r1.frN fH
    have q2 := r2.frN fH
    have q3 := r3.frN fH
    have q4 := r4.frN fH
    have q5 := r5.frN fH
    have q6 := r6.frN fH
    have hc2 : M ≤ c2 ∧ c2 ≤ maxLen := by
      rcases q2.2 with ⟨e, e0⟩ | ⟨g, c, cur, e, _, _, h1, h2, _⟩
      · simp at e
        exact ⟨by omega, by rw [e.2.2]; exact Nat.zero_le _⟩
      · simp at e
        obtain ⟨_, rfl⟩ := e
        exact ⟨h1, h2⟩
    have hf2 : (a2 = none ∧ M = 0 ∧ c2 = 0) ∨ ∃ g2, a2 = some ⟨g2, 0, none⟩ := by
      rcases q2.2 with ⟨e, e0⟩ | ⟨g, c, cur, e, _⟩
      · simp at e; exact .inl ⟨e.1, e0, e.2.2⟩
      · simp at e; exact .inr ⟨g, e.1⟩
    have HF2F := Hid.mk' hf2
    clear hf2
    obtain ⟨g1, e1, _, _, _⟩ := q1.get 0 (by omega)
    obtain ⟨g3, e3, _, _, _⟩ := q3.get 0 (by omega)
    obtain ⟨g4, e4, _, _, _⟩ := q4.get 0 (by omega)
    obtain ⟨g5, e5, _, _, _⟩ := q5.get 0 (by omega)
    subst e1 e3 e4 e5
    have hRH : Rws wH aR k rs := hRC.fr fcH (fun _ e => e)
    have hCH : Cs wH aC M (fun j => (ccx rs k).getD j 0) := (HRC.out.fr fcH (fun q e => own_lt HRC.out e)).cs (fun j hj => rfl)
    have hSG : SG wH N V k M ((k : Int) - spare) rs (ccx rs k) xs g1 g3 g4 g5 a2 a6 aC aR := by
      refine ⟨q1.cs fun j hj => ?_, q2.cs fun j hj => ?_, q3.cs fun j hj => ?_, q4.cs fun j hj => ?_, q5.cs fun j hj => ?_, q6.cs fun j hj => rfl, hCH, hRH⟩
      · rw [tab_get _ _ _ hj, hlo1 j]
        by_cases e : V < j
        · rw [if_pos e, if_pos e]
        · rw [if_neg e, if_neg e]; rfl
      · rw [et]
      · rw [ndx_tab N V _ rs N4, tab_get _ _ _ hj]
      · rw [upx_tab, tab_get _ _ _ hj]
      · rw [tab_get _ _ _ hj, hlo2 j]
    have fWH : Fr (· < w.heap.size) w wH := HFW.out.trans (fcH.mono (fun q hq => Nat.lt_of_lt_of_le hq HFW.out.size))
    have HXS := Hid.mk' hxs
    have HCNT := Hid.mk' hcnt
    have HG := Hid.mk' hSG
    have HF := Hid.mk' fWH
    have HCM : Hid (∀ j, j < M → 0 ≤ (ccx rs k).getD j 0 ∧ (ccx rs k).getD j 0 < N) := fun j hj => HMEM.out _ (getD_mem (by rw [HM.out]; exact hj))
    have HCL : Hid ((ccx rs k).length = M) := HM
    obtain ⟨hc21, hc22⟩ := hc2
    unfold maxLen at hc22
    clear r1 r2 r3 r4 r5 r6 f1 f2 fEF fH et hlo1 hlo2 hxs hcnt fcH q1 q2 q3 q4 q5 q6 hRH hCH hSG fWH HRC HFW HMEM HWL HM hRC
    generalize hcc : ccx rs k = cc at *
    clear hcc
    have hs1 : -65536 ≤ spare := by omega
    have hs2 : spare ≤ 65536 := by omega
    clear n5 n6
    generalize hd : (k : Int) - spare = d at *
    have HD := Hid.mk' hd
    clear hd
    have wn1 : IntKind.i64.wrap ((N : Int) + 1) = (N : Int) + 1 := by rw [IntKind.wrap_i64]; omega
    have wn2 : IntKind.i64.wrap ((N : Int) + 1 + (k : Int)) = (N : Int) + 1 + (k : Int) := by rw [IntKind.wrap_i64]; omega
    go_upto_block 4 with fail
    go_cut [13] (fun s wc => s = .int .i64 M ∧ wH = wc)
    case first =>
      as_aux_lemma =>
        go_wp2
        go_loop [21] (fun i => ∃ u : Nat, u ≤ N ∧ i = .int .i64 u) (fun i => N - (intOf i).toNat)
        case atStart => exact ⟨0, Nat.zero_le _, rfl⟩
        case round =>
          obtain ⟨u, hu, rfl⟩ := hrel
          by_cases hlt : u < N
          · have e3 := HG.out.r3.get u (by omega)
            have e4 := HG.out.r4.get u (by omega)
            have v4 : UF N V u = -1 := by unfold UF; rw [if_pos hlt]
            rw [v4] at e4
            clear v4
            have i1 : (u : Int) < ((N + 1 + k : Nat) : Int) := by omega
            by_cases huv : u = V
            · have v3 : NF N V d rs u = 1 := by unfold NF; rw [if_pos hlt, if_pos huv]
              rw [v3] at e3
              subst huv
              clear v3
              go_wp2
              go_round
              case rel => exact ⟨u + 1, by omega, by go_num⟩
              case measure => simp [intOf]; omega
            · have v3 : NF N V d rs u = 0 := by unfold NF; rw [if_pos hlt, if_neg huv]
              rw [v3] at e3
              clear v3
              have huv' : ¬ ((u : Int) = (V : Int)) := by omega
              go_wp2
              go_round
              case rel => exact ⟨u + 1, by omega, by go_num⟩
              case measure => simp [intOf]; omega
          · have e : u = N := by omega
            subst e
            go_wp2
            go_meet
            case rel => exact ⟨rfl, rfl⟩
    case rest =>
      obtain ⟨rfl, rfl⟩ := hcut
      go_upto_block 6 with fail
      go_cut [23] (fun s wc => s = .int .i64 N ∧ wH = wc)
      case first =>
        as_aux_lemma =>
          go_wp2
          go_loop [23, 24] (fun s i => ∃ t : Nat, t ≤ k + 1 ∧ i = .int .i64 ((N + t : Nat) : Int) ∧ s = .int .i64 (if t = 0 then -1 else (N : Int))) (fun _ i => N + 1 + k - (intOf i).toNat)
          case atStart => exact ⟨0, Nat.zero_le _, by simp, rfl⟩
          case round =>
            obtain ⟨t, ht, rfl, rfl⟩ := hrel
            by_cases hlt : t < k + 1
            · have e4 := HG.out.r4.get (N + t) (by omega)
              by_cases h0 : t = 0
              · subst h0
                have v4 : UF N V (N + 0) = (V : Int) := by unfold UF; rw [if_neg (by omega), if_pos (by omega)]
                rw [v4] at e4
                clear v4
                simp only [Nat.add_zero] at e4 ⊢
                go_wp2
                go_round
                case rel => exact ⟨0 + 1, by omega, by go_num, rfl⟩
                case measure => simp [intOf]; omega
              · have v4 : UF N V (N + t) = (N : Int) := by unfold UF; rw [if_neg (by omega), if_neg (by omega)]
                rw [v4] at e4
                rw [if_neg h0]
                clear v4
                have hne : ¬ ((N : Int) = (V : Int)) := by omega
                generalize hr : N + t = r at *
                have i1 : (r : Int) < ((N + 1 + k : Nat) : Int) := by omega
                go_wp2
                go_round
                case rel => exact ⟨t + 1, by omega, by go_num, by rw [if_neg (by omega)]⟩
                case measure => simp [intOf]; omega
            · have e : t = k + 1 := by omega
              subst e
              rw [if_neg (by omega)]
              go_wp2
              go_meet
              case rel => exact ⟨rfl, rfl⟩
      case rest =>
        obtain ⟨rfl, rfl⟩ := hcut
        have wd : IntKind.i64.wrap ((k : Int) - spare) = d := by rw [HD.out]; have := HD.out; rw [IntKind.wrap_i64]; omega
        have e3 := HG.out.r3.get N (by omega)
        have v3 : NF N V d rs N = d := by unfold NF; rw [if_neg (by omega), if_pos rfl]
        rw [v3] at e3
        have i1 : (N : Int) < ((N + 1 + k : Nat) : Int) := by omega
        clear v3
        go_upto_block 8 with fail
        clear e3 i1 wd HD
        go_cut [25] (fun s wc => ∃ aL cL, s = .slice aL k cL ∧ Row wc (.slice aL k cL) k (tab k (fun i => ((rs i).length : Int))) ∧ Fr (· < wH.heap.size) wH wc)
        case first =>
          as_aux_lemma =>
            go_wp2
            go_loopw [25, 26] (fun s i wr => ∃ (t : Nat) (aL : Option Addr) (cL : Nat), t ≤ k + 1 ∧ i = .int .i64 ((N + t : Nat) : Int) ∧ s = .slice aL (t - 1) cL ∧ Row wr (.slice aL (t - 1) cL) (t - 1) (tab (t - 1) (fun i => ((rs i).length : Int))) ∧ (∀ g, (Value.slice aL (t - 1) cL).ownBlock = some g → wH.heap.size ≤ g) ∧ Fr (· < wH.heap.size) wH wr) (fun _ i _ => N + 1 + k - (intOf i).toNat)
            case atStart => exact ⟨0, none, 0, Nat.zero_le _, by simp, rfl, World.ownsRow_nil _ _ _ _, by simp [Value.ownBlock], Fr.refl _ _⟩
            case round =>
              obtain ⟨t, aL, cL, ht, rfl, rfl, R, hg, f⟩ := hrel
              by_cases hlt : t < k + 1
              · cases t with
                | zero =>
                  have HI := Hid.mk' (And.intro R (And.intro hg f))
                  clear R hg f
                  simp only [Nat.add_zero]
                  go_wp2
                  go_roundw
                  case rel => exact ⟨0 + 1, aL, cL, by omega, by go_num, rfl, HI.out.1, HI.out.2.1, HI.out.2.2⟩
                  case measure => simp [intOf]; omega
                | succ t =>
                  have G := HG.out.fr f
                  have e3 := G.r3.get (N + (t + 1)) (by omega)
                  have e4 := G.r4.get (N + (t + 1)) (by omega)
                  have v4 : UF N V (N + (t + 1)) = (N : Int) := by unfold UF; rw [if_neg (by omega), if_neg (by omega)]
                  have v3 : NF N V d rs (N + (t + 1)) = ((rs t).length : Int) := by unfold NF; rw [if_neg (by omega), if_neg (by omega), show N + (t + 1) - N - 1 = t by omega]
                  rw [v3] at e3
                  rw [v4] at e4
                  clear v3 v4 G
                  obtain ⟨i0, hi, hz0, hz1, hz2⟩ := info_parts Try.info3
                  have o1 : ∀ o, (wr.alloc o).ownsRow 0 3 1 (.slice aL (t + 1 - 1) cL) (t + 1 - 1) ((tab (t + 1 - 1) (fun i => ((rs i).length : Int))).map (Value.int .i64)) := fun o => R.alloc o
                  simp only [Nat.add_sub_cancel] at R hg o1 ⊢
                  have hsz := f.size
                  have HI := Hid.mk' (And.intro R (And.intro hg f))
                  have HT : Hid (tab (t + 1) (fun i => ((rs i).length : Int)) = tab t (fun i => ((rs i).length : Int)) ++ [((rs t).length : Int)]) := (tab_snoc t (fun i => ((rs i).length : Int)) _ rfl).symm
                  clear R hg f
                  generalize ((rs t).length : Int) = z at *
                  generalize tab t (fun i => ((rs i).length : Int)) = T0 at *
                  generalize hr : N + (t + 1) = r at *
                  have i1 : (r : Int) < ((N + 1 + k : Nat) : Int) := by omega
                  have i2 : ¬ ((r : Int) = (N : Int)) := by omega
                  go_wp2_with (at_builtin; refine wpList_append_lies _ rfl (.tmp 228) (.tmp 233) 22 rfl 0 3 i0 (.int .i64 0) 1 8 Try.underlying22 hi hz0 hz1 hz2 rfl (by decide) _ _ _ rfl (o1 _) ⟨wr.heap.size, 0, none⟩ 1 1 [.int .i64 z] rfl rfl ?c1 ?c2 (by decide) ?c3 ?c4 (Nat.zero_le _) (wr.heap.size + 1) ?c5 ?_)
                  case c1 => exact one_new _ _ _ _ rfl
                  case c2 => exact ints_oneCell .i64 [_]
                  case c3 => unfold maxLen; omega
                  case c4 => omega
                  case c5 => simp
                  intro G C2 w2 hown hgr hat hlt2
                  have HE : Hid (Row w2 (.slice (some ⟨G, 0, none⟩) (t + 1) C2) (t + 1) (tab (t + 1) (fun i => ((rs i).length : Int))) ∧ wH.heap.size ≤ G ∧ Fr (· < wH.heap.size) wH w2) := by
                    refine ⟨?_, ?_, ?_⟩
                    · rw [HT.out]
                      unfold Row
                      simpa using hown
                    · rcases hat with e | e
                      · exact HI.out.2.1 G e
                      · omega
                    · exact (HI.out.2.2.alloc (fun q hq => by omega) _).grown hgr (fun q hq => by simp; omega) (fun q e => by have := HI.out.2.1 q e; omega)
                  clear HT HI o1 hown hgr hat hi hz0 hz1 hz2 e3 e4
                  go_wp2
                  go_roundw
                  case rel => exact ⟨t + 1 + 1, _, C2, by omega, by go_num, rfl, HE.out.1, by simp [Value.ownBlock]; exact HE.out.2.1, HE.out.2.2⟩
                  case measure => simp [intOf]; omega
              · have e : t = k + 1 := by omega
                subst e
                simp only [Nat.add_sub_cancel] at R hg ⊢
                have HI := Hid.mk' (And.intro R f)
                clear R f hg
                go_wp2
                go_meet
                case rel => exact ⟨aL, cL, rfl, HI.out.1, HI.out.2⟩
        case rest =>
          obtain ⟨aL, cL, rfl, RL, fL⟩ := hcut
          obtain ⟨wX, rfl⟩ : ∃ x, x = wc := ⟨_, rfl⟩
          have HG2 := Hid.mk' (HG.out.fr fL)
          have HF2 : Hid (Fr (· < w.heap.size) w wX) := HF.out.trans (fL.mono (fun q hq => Nat.lt_of_lt_of_le hq HF.out.size))
          have HRL := Hid.mk' RL
          clear HG HF RL fL
          obtain ⟨i0, hi, hz0, hz1, hz2⟩ := info_parts Try.info3
          go_wp2_with (at_make; refine wpList_make_full _ rfl _ _ 22 rfl 0 3 i0 (.int .i64 0) 1 Try.underlying22 hi hz0 hz1 _ _ _ _ k rfl rfl rfl rfl (by rw [hz2]; omega) (by unfold maxLen; omega) (Nat.zero_le _) ?_)
          intro wI hown hgr
          simp only [made_zero] at hown
          have fI : Fr (· < wX.heap.size) wX wI := (Fr.refl _ _).grown hgr (fun _ h => h) (by simp)
          have RI : Row wI (.slice (some ⟨wX.heap.size, 0, none⟩) k k) k (tab k (fun j => if j < 0 then ((rs j).length : Int) else 0)) := by
            have e1 : tab k (fun j => if j < 0 then ((rs j).length : Int) else 0) = List.replicate k (0 : Int) := by rw [tab_zero]; exact tab_ext _ _ _ fun j _ => by simp
            rw [e1]
            exact hown
          have HRI := Hid.mk' (And.intro RI fI)
          clear hown hgr hi hz0 hz1 hz2 RI fI
          generalize hGL : wX.heap.size = GL at *
          go_upto_block 10 with fail
          go_cut [27] (fun s wd => s = .slice (some ⟨GL, 0, none⟩) k k ∧ Row wd (.slice (some ⟨GL, 0, none⟩) k k) k (tab k (fun i => ((rs i).length : Int))) ∧ Fr (· < GL) wX wd)
          case first =>
            as_aux_lemma =>
              go_wp2
              go_loopw [28] (fun i wr => ∃ t : Nat, t ≤ k ∧ i = .int .i64 t ∧ Row wr (.slice (some ⟨GL, 0, none⟩) k k) k (tab k (fun j => if j < t then ((rs j).length : Int) else 0)) ∧ Fr (· < GL) wX wr) (fun i _ => k - (intOf i).toNat)
              case atStart => exact ⟨0, Nat.zero_le _, rfl, HRI.out.1, HRI.out.2⟩
              case round =>
                clear HRI
                obtain ⟨t, ht, rfl, R, f⟩ := hrel
                by_cases hlt : t < k
                · obtain ⟨x, ai, ci, rfl, hc, _⟩ := HG2.out.rR.fr f (fun q e => by omega) t hlt
                  have s1 := R.cell t hlt
                  have s2 := R.frozen t
                  have R2 := R.set t ((rs t).length : Int)
                  have f2 := f.setCell (p := ⟨GL, t, none⟩) (by simp) (.int .i64 ((rs t).length : Int))
                  have eT : (tab k (fun j => if j < t then ((rs j).length : Int) else 0)).set t ((rs t).length : Int) = tab k (fun j => if j < t + 1 then ((rs j).length : Int) else 0) := by
                    refine tab_set _ _ _ _ _ fun i hi => ?_
                    by_cases e : i = t
                    · subst e; rw [if_pos rfl, if_pos (by omega)]
                    · rw [if_neg e]
                      by_cases h2 : i < t
                      · rw [if_pos h2, if_pos (by omega)]
                      · rw [if_neg h2, if_neg (by omega)]
                  rw [eT] at R2
                  have HE := Hid.mk' (And.intro R2 f2)
                  have hb := HL2.out t hlt
                  clear R R2 f f2 eT
                  generalize (rs t).length = z at *
                  generalize (tab k (fun j => if j < t then ((rs j).length : Int) else 0)).getD t 0 = z0 at *
                  go_wp2
                  go_roundw
                  case rel => exact ⟨t + 1, by omega, by go_num, HE.out.1, HE.out.2⟩
                  case measure => simp [intOf]; omega
                · have e : t = k := by omega
                  subst e
                  have e1 : tab t (fun j => if j < t then ((rs j).length : Int) else 0) = tab t (fun i => ((rs i).length : Int)) := tab_ext _ _ _ fun j hj => by rw [if_pos hj]
                  rw [e1] at R
                  have HE := Hid.mk' (And.intro R f)
                  clear R f e1
                  go_wp2
                  go_meet
                  case rel => exact ⟨rfl, HE.out.1, HE.out.2⟩
          case rest =>
            obtain ⟨rfl, RK, fK⟩ := hcut
            clear HRI
            obtain ⟨wd, rfl⟩ : ∃ x, x = wc := ⟨_, rfl⟩
            have fK' : Fr (· < wX.heap.size) wX wd := by rw [hGL]; exact fK
            have HG3 := Hid.mk' (HG2.out.fr fK')
            have HF3 : Hid (Fr (· < w.heap.size) w wd) := HF2.out.trans (fK'.mono (fun q hq => Nat.lt_of_lt_of_le hq HF2.out.size))
            have HRL2 := Hid.mk' (HRL.out.frN fK')
            have HRK := Hid.mk' RK
            clear HG2 HF2 HRL fK fK' RK
            go_wp2_with fail
            refine (sorted_any HRL2.out.rd (by omega)).mono ?_
            rintro e wJ ⟨aS, cS, rfl, RS, fS, _⟩
            have HRK2 := Hid.mk' (HRK.out.frN fS)
            have HG4 := Hid.mk' (HG3.out.fr fS)
            have HF4 : Hid (Fr (· < w.heap.size) w wJ) := HF3.out.trans (fS.mono (fun q hq => Nat.lt_of_lt_of_le hq HF3.out.size))
            have HRS := Hid.mk' RS
            clear HRK HG3 HF3 HRL2 RS fS
            go_wp2_with fail
            refine (sorted_any HRK2.out.rd (by omega)).mono ?_
            rintro e wK ⟨aT, cT, rfl, RT, fT, _⟩
            have HRS2 := Hid.mk' (HRS.out.frN fT)
            have HG5 := Hid.mk' (HG4.out.fr fT)
            have HF5 : Hid (Fr (· < w.heap.size) w wK) := HF4.out.trans (fT.mono (fun q hq => Nat.lt_of_lt_of_le hq HF4.out.size))
            have HRT := Hid.mk' RT
            clear HRK2 HG4 HF4 HRS RT fT
            go_wp2_with fail
            refine (same_any _ _ _ _ _ _ _ (by omega) HRS2.out.rd.get HRT.out.rd.get).mono ?_
            rintro e w' ⟨rfl, q, rfl⟩
            have HG6 := Hid.mk' (HG5.out.fr ((Fr.refl _ wK).drewN q))
            have HF6 : Hid (Fr (· < w.heap.size) w (wK.drewN q)) := HF5.out.drewN q
            clear HRS2 HRT HG5 HF5
            generalize wK.drewN q = wL at *
            have e10 := HG6.out.r1.get 0 (by omega)
            have e1n := HG6.out.r1.get N (by omega)
            have e50 := HG6.out.r5.get 0 (by omega)
            have e5n := HG6.out.r5.get N (by omega)
            have z1 : lo (kz cc) 0 M = 0 := lo_zero _ _
            have z2 : lo (kz cc) N M = M := lo_all _ _ _ (fun i hi => by have := HCM.out i hi; unfold kz; omega)
            simp only [z1, z2] at e50 e5n
            rw [if_neg (by omega)] at e10
            rw [if_pos N4] at e1n
            clear z1 z2
            have i1 : (N : Int) < ((N + 1 : Nat) : Int) := by omega
            go_upto_block 12 with fail
            clear e10 e1n e50 e5n i1
            go_cut [13] (fun s wy => s = .int .i64 M ∧ ∃ q, wL.drewN q = wy)
            case first =>
              as_aux_lemma =>
                go_wp2
                go_loopw [29] (fun i wr => ∃ u : Nat, u ≤ N ∧ i = .int .i64 u ∧ ∃ q, wL.drewN q = wr) (fun i _ => N - (intOf i).toNat)
                case atStart => exact ⟨0, Nat.zero_le _, rfl, 0, rfl⟩
                case round =>
                  obtain ⟨u, hu, rfl, q, rfl⟩ := hrel
                  by_cases hlt : u < N
                  · have d1 := HG6.out.r1.get u (by omega)
                    have d2 := HG6.out.r1.get (u + 1) (by omega)
                    have d3 := HG6.out.r5.get u (by omega)
                    have d4 := HG6.out.r5.get (u + 1) (by omega)
                    have l2 := lo_mono (kz cc) M u 1
                    have h12 : (if V < u then (M : Int) else 0) ≤ (if V < u + 1 then (M : Int) else 0) := by
                      by_cases h : V < u
                      · rw [if_pos h, if_pos (by omega)]; omega
                      · rw [if_neg h]; split <;> omega
                    have heq : u ≠ V → (if V < u then (M : Int) else 0) = (if V < u + 1 then (M : Int) else 0) := by
                      intro hne
                      by_cases h : V < u
                      · rw [if_pos h, if_pos (by omega)]
                      · rw [if_neg h, if_neg (by omega)]
                    generalize (if V < u then (M : Int) else 0) = p1 at *
                    generalize (if V < u + 1 then (M : Int) else 0) = p2 at *
                    generalize lo (kz cc) u M = p3 at *
                    generalize lo (kz cc) (u + 1) M = p4 at *
                    have f1 : ∀ m, (wL.drewN m).cell? ⟨g1, u, none⟩ = some (.int .i64 p1) := fun m => by rw [World.cell?_drewN]; exact d1
                    have f2 : ∀ m, (wL.drewN m).cell? ⟨g1, u + 1, none⟩ = some (.int .i64 p2) := fun m => by rw [World.cell?_drewN]; exact d2
                    have f3 : ∀ m, (wL.drewN m).cell? ⟨g5, u, none⟩ = some (.int .i64 p3) := fun m => by rw [World.cell?_drewN]; exact d3
                    have f4 : ∀ m, (wL.drewN m).cell? ⟨g5, u + 1, none⟩ = some (.int .i64 p4) := fun m => by rw [World.cell?_drewN]; exact d4
                    clear d1 d2 d3 d4
                    have i1 : (0 : Int) ≤ (u : Int) := by omega
                    have i2 : (u : Int) < (N : Int) + 1 := by omega
                    have i3 : (0 : Int) ≤ (u : Int) + 1 := by omega
                    have i4 : (u : Int) + 1 < (N : Int) + 1 := by omega
                    have i5 : (u : Int) < ((N + 1 : Nat) : Int) := by omega
                    have i6 : (u : Int) + 1 < ((N + 1 : Nat) : Int) := by omega
                    have wr1 : IntKind.i64.wrap ((u : Int) + 1) = (u : Int) + 1 := by rw [IntKind.wrap_i64]; omega
                    have g1' : decide (p2 < p1) = false := decide_eq_false (by omega)
                    have g2' : decide ((p4 : Int) < (p3 : Int)) = false := decide_eq_false (by omega)
                    by_cases huv : u = V
                    · subst huv
                      clear heq
                      go_wp2
                      go_quiet (fail)
                      go_wp2
                      go_quiet (fail)
                      go_wp2
                      go_roundw
                      case rel => exact ⟨u + 1, by omega, by go_num, _, rfl⟩
                      case measure => simp [intOf]; omega
                    · have hp := heq huv
                      subst hp
                      clear heq
                      have huv' : ¬ ((u : Int) = (V : Int)) := by omega
                      have huv2 : ((u : Int) != (V : Int)) = true := by rw [bne_iff_ne]; omega
                      go_wp2
                      go_quiet (fail)
                      go_wp2
                      go_quiet (fail)
                      go_wp2
                      go_roundw
                      case rel => exact ⟨u + 1, by omega, by go_num, _, rfl⟩
                      case measure => simp [intOf]; omega
                  · have e : u = N := by omega
                    subst e
                    go_wp2
                    go_meet
                    case rel => exact ⟨rfl, _, rfl⟩
            case rest =>
              obtain ⟨rfl, q, rfl⟩ := hcut
              have HG7 := Hid.mk' (HG6.out.fr ((Fr.refl _ wL).drewN q))
              have HF7 : Hid (Fr (· < w.heap.size) w (wL.drewN q)) := HF6.out.drewN q
              clear HG6 HF6
              generalize wL.drewN q = wM at *
              have d1 := HG7.out.r1.get V (by omega)
              have d2 := HG7.out.r1.get (V + 1) (by omega)
              rw [if_neg (by omega)] at d1
              rw [if_pos (by omega)] at d2
              have f1 : ∀ m, (wM.drewN m).cell? ⟨g1, V, none⟩ = some (.int .i64 0) := fun m => by rw [World.cell?_drewN]; exact d1
              have f2 : ∀ m, (wM.drewN m).cell? ⟨g1, V + 1, none⟩ = some (.int .i64 M) := fun m => by rw [World.cell?_drewN]; exact d2
              clear d1 d2
              have i2 : (V : Int) < (N : Int) + 1 := by omega
              have i4 : (V : Int) + 1 < (N : Int) + 1 := by omega
              have i5 : (V : Int) < ((N + 1 : Nat) : Int) := by omega
              have i6 : (V : Int) + 1 < ((N + 1 : Nat) : Int) := by omega
              have wr1 : IntKind.i64.wrap ((V : Int) + 1) = (V : Int) + 1 := by rw [IntKind.wrap_i64]; omega
              have sm : ∀ q ad cx, ad = a2 → Calls Try.prog 21 #[.slice ad M cx, .slice aC M cC] (wM.drewN q) fun e w' => e = .returned (.bool true) ∧ ∃ m, w' = (wM.drewN q).drewN m := by
                intro q ad cx ead
                subst ead
                have G := HG7.out.fr ((Fr.refl _ wM).drewN q)
                refine (same_any _ _ _ _ _ (fun j => cc.getD j 0) _ (by omega) (fun j hj => ?_) (fun j hj => ?_)).mono ?_
                · obtain ⟨g, e, c⟩ := G.r2 j hj
                  exact ⟨_, e, by simpa [Addr.add_lit] using c⟩
                · obtain ⟨g, e, c⟩ := G.rC j hj
                  exact ⟨_, e, by simpa [Addr.add_lit] using c⟩
                · rintro e w' ⟨rfl, q2, rfl⟩
                  exact ⟨rfl, q2, rfl⟩
              have HSM := Hid.mk' sm
              clear sm
              go_upto_region 71 with fail
              go_cut [337] (fun s wy => s = .bool false ∧ ∃ q, wM.drewN q = wy)
              case first =>
                as_aux_lemma =>
                  have hsl := fun W => slice_all a2 M c2 hc21 HF2F.out W
                  go_big_quiet ((go_at_call 21; exact Calls.quiet_of (HSM.out _ _ _ rfl)))
                  go_wp2
                  go_meet
                  case rel => exact ⟨rfl, _, rfl⟩
              case rest =>
                obtain ⟨rfl, q, rfl⟩ := hcut
                have HG8 := Hid.mk' (HG7.out.fr ((Fr.refl _ wM).drewN q))
                have HF8 : Hid (Fr (· < w.heap.size) w (wM.drewN q)) := HF7.out.drewN q
                clear HG7 HF7 f1 f2 i2 i4 i5 i6 wr1 HSM HF2F
                generalize wM.drewN q = wN at *
                obtain ⟨i0, hi, hz0, hz1, hz2⟩ := info_parts Try.info3
                go_wp2_with (at_make; refine wpList_make_full _ rfl _ _ 22 rfl 0 3 i0 (.int .i64 0) 1 Try.underlying22 hi hz0 hz1 _ _ _ _ N rfl rfl rfl rfl (by rw [hz2]; omega) (by unfold maxLen; omega) (Nat.zero_le _) ?_)
                intro wI hown hgr
                simp only [made_zero] at hown
                have fI : Fr (· < wN.heap.size) wN wI := (Fr.refl _ _).grown hgr (fun _ h => h) (by simp)
                have RI : Row wI (.slice (some ⟨wN.heap.size, 0, none⟩) N N) N (tab N (CK (kz cc) 0)) := by
                  rw [← CK_zero]
                  exact hown
                have HRI := Hid.mk' (And.intro RI fI)
                clear hown hgr hi hz0 hz1 hz2 RI fI
                generalize hGO : wN.heap.size = GO at *
                go_upto_block 14 with fail
                go_cut [30] (fun s wy14 => s = .slice (some ⟨GO, 0, none⟩) N N ∧ Row wy14 (.slice (some ⟨GO, 0, none⟩) N N) N (tab N (CK (kz cc) M)) ∧ Fr (· < GO) wN wy14)
                case first =>
                  as_aux_lemma =>
                    go_wp2
                    go_loopw [31] (fun i wr => ∃ t : Nat, t ≤ M ∧ i = .int .i64 t ∧ Row wr (.slice (some ⟨GO, 0, none⟩) N N) N (tab N (CK (kz cc) t)) ∧ Fr (· < GO) wN wr) (fun i _ => M - (intOf i).toNat)
                    case atStart => exact ⟨0, Nat.zero_le _, rfl, HRI.out.1, HRI.out.2⟩
                    case round =>
                      clear HRI
                      obtain ⟨t, ht, rfl, R, f⟩ := hrel
                      by_cases hlt : t < M
                      · have f' : Fr (· < wN.heap.size) wN wr := by rw [hGO]; exact f
                        obtain ⟨gC, eC, cC1⟩ := (HG8.out.rC.fr f') t hlt
                        subst eC
                        have hb := HCM.out t hlt
                        have hkz : cc.getD t 0 = ((kz cc t : Nat) : Int) := by unfold kz; omega
                        have hkn : kz cc t < N := by unfold kz; omega
                        simp only [hkz] at cC1
                        have hst := CK_succ (kz cc) N t hkn
                        have hbd := CK_bd (kz cc) N t hkn
                        have s1 := R.cell (kz cc t) hkn
                        have s2 := R.frozen (kz cc t)
                        have R2 := R.set (kz cc t) ((tab N (CK (kz cc) t)).getD (kz cc t) 0 + 1)
                        rw [hst] at R2
                        have f2 := f.setCell (p := ⟨GO, kz cc t, none⟩) (by simp) (.int .i64 ((tab N (CK (kz cc) t)).getD (kz cc t) 0 + 1))
                        have HE := Hid.mk' (And.intro R2 f2)
                        clear R R2 f f' f2 hst hkz hb
                        generalize (tab N (CK (kz cc) t)).getD (kz cc t) 0 = X at *
                        generalize kz cc t = kk at *
                        have i1 : (0 : Int) ≤ (kk : Int) := by omega
                        have i2 : (kk : Int) < (N : Int) := by omega
                        have wX : IntKind.i64.wrap (X + 1) = X + 1 := by rw [IntKind.wrap_i64]; omega
                        go_wp2
                        go_roundw
                        case rel => exact ⟨t + 1, by omega, by go_num, HE.out.1, HE.out.2⟩
                        case measure => simp [intOf]; omega
                      · have e : t = M := by omega
                        subst e
                        have HE := Hid.mk' (And.intro R f)
                        clear R f
                        go_wp2
                        go_meet
                        case rel => exact ⟨rfl, HE.out.1, HE.out.2⟩
                case rest =>
                  obtain ⟨rfl, RO, fO⟩ := hcut
                  clear HRI
                  obtain ⟨wO, rfl⟩ : ∃ x, x = wc := ⟨_, rfl⟩
                  have fO' : Fr (· < wN.heap.size) wN wO := by rw [hGO]; exact fO
                  have HG9 := Hid.mk' (HG8.out.fr fO')
                  have HF9 : Hid (Fr (· < w.heap.size) w wO) := HF8.out.trans (fO'.mono (fun q hq => Nat.lt_of_lt_of_le hq HF8.out.size))
                  have HRO := Hid.mk' RO
                  clear HG8 HF8 fO fO' RO
                  go_upto_block 16 with fail
                  go_cut [13] (fun s wy16 => s = .int .i64 M ∧ ∃ q, wO.drewN q = wy16)
                  case first =>
                    as_aux_lemma =>
                      go_wp2
                      go_loopw [32] (fun i wr => ∃ u : Nat, u ≤ N ∧ i = .int .i64 u ∧ ∃ q, wO.drewN q = wr) (fun i _ => N - (intOf i).toNat)
                      case atStart => exact ⟨0, Nat.zero_le _, rfl, 0, rfl⟩
                      case round =>
                        obtain ⟨u, hu, rfl, q, rfl⟩ := hrel
                        by_cases hlt : u < N
                        · have d3 := HG9.out.r5.get u (by omega)
                          have d4 := HG9.out.r5.get (u + 1) (by omega)
                          have d5 := HRO.out.cell u hlt
                          rw [tab_get _ _ _ hlt] at d5
                          have hs := lo_succ (kz cc) u M
                          have hcl := cn_le (kz cc) u M
                          unfold CK at d5
                          have hll := lo_le (kz cc) u M
                          generalize lo (kz cc) u M = p3 at *
                          generalize lo (kz cc) (u + 1) M = p4 at *
                          generalize cn (kz cc) u M = C at *
                          have f3 : ∀ m, (wO.drewN m).cell? ⟨g5, u, none⟩ = some (.int .i64 p3) := fun m => by rw [World.cell?_drewN]; exact d3
                          have f4 : ∀ m, (wO.drewN m).cell? ⟨g5, u + 1, none⟩ = some (.int .i64 p4) := fun m => by rw [World.cell?_drewN]; exact d4
                          have f5 : ∀ m, (wO.drewN m).cell? ⟨GO, u, none⟩ = some (.int .i64 C) := fun m => by rw [World.cell?_drewN]; exact d5
                          clear d3 d4 d5
                          have ws : IntKind.i64.wrap ((p4 : Int) - (p3 : Int)) = (C : Int) := by rw [IntKind.wrap_i64]; omega
                          have e43 : (p4 : Int) - (p3 : Int) = (C : Int) := by omega
                          clear hs
                          have i1 : (0 : Int) ≤ (u : Int) := by omega
                          have i2 : (u : Int) < (N : Int) + 1 := by omega
                          have i3 : (0 : Int) ≤ (u : Int) + 1 := by omega
                          have i4 : (u : Int) + 1 < (N : Int) + 1 := by omega
                          have i5 : (u : Int) < ((N + 1 : Nat) : Int) := by omega
                          have i6 : (u : Int) + 1 < ((N + 1 : Nat) : Int) := by omega
                          have i7 : (u : Int) < (N : Int) := by omega
                          have wr1 : IntKind.i64.wrap ((u : Int) + 1) = (u : Int) + 1 := by rw [IntKind.wrap_i64]; omega
                          go_wp2
                          go_quiet (fail)
                          go_wp2
                          go_roundw
                          case rel => exact ⟨u + 1, by omega, by go_num, _, rfl⟩
                          case measure => simp [intOf]; omega
                        · have e : u = N := by omega
                          subst e
                          go_wp2
                          go_meet
                          case rel => exact ⟨rfl, _, rfl⟩
                  case rest =>
                    obtain ⟨rfl, q, rfl⟩ := hcut
                    have HG10 := Hid.mk' (HG9.out.fr ((Fr.refl _ wO).drewN q))
                    have HF10 : Hid (Fr (· < w.heap.size) w (wO.drewN q)) := HF9.out.drewN q
                    clear HG9 HF9 HRO HCM
                    generalize wO.drewN q = wP at *
                    obtain ⟨i0, hi, hz0, hz1, hz2⟩ := info_parts Try.info3
                    go_wp2_with (at_make; refine wpList_make_full _ rfl _ _ 22 rfl 0 3 i0 (.int .i64 0) 1 Try.underlying22 hi hz0 hz1 _ _ _ _ (N + 1 + k) rfl rfl (by first | rfl | go_num) (by first | rfl | go_num) (by rw [hz2]; omega) (by unfold maxLen; omega) (Nat.zero_le _) ?_)
                    intro wI hown hgr
                    simp only [made_zero] at hown
                    have fI : Fr (· < wP.heap.size) wP wI := (Fr.refl _ _).grown hgr (fun _ h => h) (by simp)
                    have RI : Row wI (.slice (some ⟨wP.heap.size, 0, none⟩) (N + 1 + k) (N + 1 + k)) (N + 1 + k) (tab (N + 1 + k) (CK (kz xs) 0)) := by
                      rw [← CK_zero]
                      exact hown
                    have HRI := Hid.mk' (And.intro RI fI)
                    clear hown hgr hi hz0 hz1 hz2 RI fI
                    generalize hGN : wP.heap.size = GN at *
                    go_upto_block 18 with fail
                    go_cut [33] (fun s wy18 => s = .slice (some ⟨GN, 0, none⟩) (N + 1 + k) (N + 1 + k) ∧ Row wy18 (.slice (some ⟨GN, 0, none⟩) (N + 1 + k) (N + 1 + k)) (N + 1 + k) (tab (N + 1 + k) (CK (kz xs) M)) ∧ Fr (· < GN) wP wy18)
                    case first =>
                      as_aux_lemma =>
                        go_wp2
                        go_loopw [34] (fun i wr => ∃ t : Nat, t ≤ M ∧ i = .int .i64 t ∧ Row wr (.slice (some ⟨GN, 0, none⟩) (N + 1 + k) (N + 1 + k)) (N + 1 + k) (tab (N + 1 + k) (CK (kz xs) t)) ∧ Fr (· < GN) wP wr) (fun i _ => M - (intOf i).toNat)
                        case atStart => exact ⟨0, Nat.zero_le _, rfl, HRI.out.1, HRI.out.2⟩
                        case round =>
                          clear HRI
                          obtain ⟨t, ht, rfl, R, f⟩ := hrel
                          by_cases hlt : t < M
                          · have f' : Fr (· < wP.heap.size) wP wr := by rw [hGN]; exact f
                            obtain ⟨g6, e6, c61⟩ := (HG10.out.r6.fr f') t hlt
                            subst e6
                            have c62 : wr.cell? ⟨g6, t, none⟩ = some (.int .i64 (xs.getD t 0)) := c61
                            clear c61
                            have hb := HXS.out t hlt
                            have hkn : kz xs t < N + 1 + k := by unfold kz; omega
                            have hst := CK_succ (kz xs) (N + 1 + k) t hkn
                            have hbd := CK_bd (kz xs) (N + 1 + k) t hkn
                            have s1 := R.cell (kz xs t) hkn
                            have s2 := R.frozen (kz xs t)
                            have R2 := R.set (kz xs t) ((tab (N + 1 + k) (CK (kz xs) t)).getD (kz xs t) 0 + 1)
                            rw [hst] at R2
                            have f2 := f.setCell (p := ⟨GN, kz xs t, none⟩) (by simp) (.int .i64 ((tab (N + 1 + k) (CK (kz xs) t)).getD (kz xs t) 0 + 1))
                            have HE := Hid.mk' (And.intro R2 f2)
                            clear R R2 f f' f2 hst
                            generalize (tab (N + 1 + k) (CK (kz xs) t)).getD (kz xs t) 0 = X at *
                            have ekz : kz xs t = (xs.getD t 0).toNat := rfl
                            rw [ekz] at s1 s2 HE
                            clear ekz hkn
                            generalize xs.getD t 0 = KK at *
                            have i1 : (0 : Int) ≤ KK := by omega
                            have i2 : KK < ((N + 1 + k : Nat) : Int) := by omega
                            have i3 : ¬ KK < (N : Int) := by omega
                            have i4 : ¬ KK = (N : Int) := by omega
                            have i5 : ¬ (N : Int) + 1 + (k : Int) ≤ KK := by omega
                            have i6 : ¬ ((N + 1 + k : Nat) : Int) ≤ KK := by omega
                            have i7 : KK < (N : Int) + 1 + (k : Int) := by omega
                            clear hb
                            have wX : IntKind.i64.wrap (X + 1) = X + 1 := by rw [IntKind.wrap_i64]; omega
                            go_wp2
                            go_roundw
                            case rel => exact ⟨t + 1, by omega, by go_num, HE.out.1, HE.out.2⟩
                            case measure => simp [intOf]; omega
                          · have e : t = M := by omega
                            subst e
                            have HE := Hid.mk' (And.intro R f)
                            clear R f
                            go_wp2
                            go_meet
                            case rel => exact ⟨rfl, HE.out.1, HE.out.2⟩
                    case rest =>
                      obtain ⟨rfl, RN, fN⟩ := hcut
                      clear HRI
                      obtain ⟨wQ, rfl⟩ : ∃ x, x = wc := ⟨_, rfl⟩
                      have fN' : Fr (· < wP.heap.size) wP wQ := by rw [hGN]; exact fN
                      have HG11 := Hid.mk' (HG10.out.fr fN')
                      have HF11 : Hid (Fr (· < w.heap.size) w wQ) := HF10.out.trans (fN'.mono (fun q hq => Nat.lt_of_lt_of_le hq HF10.out.size))
                      have HRN := Hid.mk' RN
                      clear HG10 HF10 fN fN' RN
                      go_wp2
                      go_loopw [36] (fun i wr => ∃ t : Nat, t ≤ k + 1 ∧ i = .int .i64 ((N + t : Nat) : Int) ∧ ∃ q, wQ.drewN q = wr) (fun i _ => N + 1 + k - (intOf i).toNat)
                      case atStart => exact ⟨0, Nat.zero_le _, by simp, 0, rfl⟩
                      case round =>
                        obtain ⟨t, ht, rfl, q, rfl⟩ := hrel
                        by_cases hlt : t < k + 1
                        · cases t with
                          | zero =>
                            simp only [Nat.add_zero]
                            go_wp2
                            go_quiet (fail)
                            go_wp2
                            go_roundw
                            case rel => exact ⟨0 + 1, by omega, by go_num, _, rfl⟩
                            case measure => simp [intOf]; omega
                          | succ t =>
                            have d3 := HG11.out.r3.get (N + (t + 1)) (by omega)
                            have d5 := HRN.out.cell (N + (t + 1)) (by omega)
                            rw [tab_get _ _ _ (by omega)] at d5
                            unfold CK at d5
                            have hcn := HCNT.out (N + (t + 1)) (by omega) (by omega)
                            rw [show N + (t + 1) - (N + 1) = t by omega] at hcn
                            have v3 : NF N V d rs (N + (t + 1)) = ((rs t).length : Int) := by unfold NF; rw [if_neg (by omega), if_neg (by omega), show N + (t + 1) - N - 1 = t by omega]
                            rw [v3] at d3
                            rw [hcn] at d5
                            generalize ((rs t).length : Int) = z at *
                            generalize hr : N + (t + 1) = r at *
                            have f3 : ∀ m, (wQ.drewN m).cell? ⟨g3, r, none⟩ = some (.int .i64 z) := fun m => by rw [World.cell?_drewN]; exact d3
                            have f5 : ∀ m, (wQ.drewN m).cell? ⟨GN, r, none⟩ = some (.int .i64 z) := fun m => by rw [World.cell?_drewN]; exact d5
                            clear d3 d5 hcn v3
                            have i1 : (r : Int) < ((N + 1 + k : Nat) : Int) := by omega
                            have i2 : ((r : Int) != (N : Int)) = true := by rw [bne_iff_ne]; omega
                            have i3 : (r : Int) < (N : Int) + 1 + (k : Int) := by omega
                            have i4 : ¬ ((r : Int) = (N : Int)) := by omega
                            go_wp2
                            go_quiet (fail)
                            go_wp2
                            go_roundw
                            case rel => exact ⟨t + 1 + 1, by omega, by go_num, _, rfl⟩
                            case measure => simp [intOf]; omega
                        · have e : t = k + 1 := by omega
                          subst e
                          have HB : Hid (∀ q, Below w.heap.size w (wQ.drewN q)) := fun q => (HF11.out.drewN q).below
                          go_wp2
                          go_ret
                          exact ⟨rfl, HB.out _⟩

end Go.Proofs.Qxb6003672a

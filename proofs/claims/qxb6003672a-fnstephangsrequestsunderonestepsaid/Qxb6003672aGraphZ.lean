import Derived.Test.Qxb6003672aGraph
namespace Go.Proofs.Qxb6003672a
open Go.RowKit
set_option linter.unusedVariables false
attribute [local go_sem ↓] Go.wp_at_zero Go.wp_at_succ

theorem IG.fin0 {F : Nat → Prop} {w wc : World} {b : Nat} {an au av aA aB : Option Addr} {c1 c2 cv gb gf cf gw cw cA cB : Nat} (hF : ∀ k, F k → k < w.heap.size)
    (h : BV F w b 0 [] [] [] (.slice an 0 c1) (.slice au 0 c2) (.slice av 0 cv))
    (J : IG w b 0 (.slice an 0 c1) (.slice au 0 c2) (.slice av 0 cv) wc gb gf cf gw cw (.slice aA 0 cA) (.slice aB 0 cB) [0] [0])
    (ro : Row wc (.slice aA 0 cA) 0 []) (rx : Row wc (.slice aB 0 cB) 0 []) (T1 : ∀ g, (Value.slice aA 0 cA).ownBlock = some g → gw < g) (T2 : ∀ g, (Value.slice aB 0 cB).ownBlock = some g → gw < g) (x0 x1 x2 x3 x4 x5 y0 y1 y2 y3 y4 y5 : Value) :
    GOut F w 0 [] [] [] (.returned (.agg #[.slice (some ⟨gf, 0, none⟩) 1 cf, .slice aA 0 cA, .slice an 0 c1, .slice au 0 c2, .slice (some ⟨gw, 0, none⟩) 1 cw, .slice aB 0 cB]))
      ((((((((((((wc.setCell ⟨b, 4, none⟩ x0).setCell ⟨b, 5, none⟩ x1).setCell ⟨b, 6, none⟩ x2).setCell ⟨b, 7, none⟩ x3).setCell ⟨b, 8, none⟩ x4).setCell ⟨b, 9, none⟩ x5).setCell ⟨w.heap.size, 0, none⟩ y0).setCell ⟨w.heap.size, 1, none⟩ y1).setCell ⟨w.heap.size, 2, none⟩ y2).setCell ⟨w.heap.size, 3, none⟩ y3).setCell ⟨w.heap.size, 4, none⟩ y4).setCell ⟨w.heap.size, 5, none⟩ y5) := by
  have hb := J.hb
  have hgf := J.hgf
  have hgw := J.hgw
  have nb := h.blk.off (by decide) h.rn
  have ub := h.blk.off (by decide) h.ru
  have kN := h.rn.fr J.fr (fun k e => ⟨own_lt h.rn e, fun e' => nb (e' ▸ e)⟩)
  have kU := h.ru.fr J.fr (fun k e => ⟨own_lt h.ru e, fun e' => ub (e' ▸ e)⟩)
  have ob : (Value.slice aA 0 cA).ownBlock ≠ some b := fun e => by have := T1 _ e; omega
  have o_r : (Value.slice aA 0 cA).ownBlock ≠ some w.heap.size := fun e => by have := T1 _ e; omega
  have xb : (Value.slice aB 0 cB).ownBlock ≠ some b := fun e => by have := T2 _ e; omega
  have xr : (Value.slice aB 0 cB).ownBlock ≠ some w.heap.size := fun e => by have := T2 _ e; omega
  have nr : (Value.slice an 0 c1).ownBlock ≠ some w.heap.size := fun e => by have := own_lt h.rn e; omega
  have ur : (Value.slice au 0 c2).ownBlock ≠ some w.heap.size := fun e => by have := own_lt h.ru e; omega
  refine ⟨_, _, _, _, _, _, _, _, _, _, _, _, [], [], rfl, ?_, ?_, ?_, ?_, ?_, ?_, ⟨rfl, fun i hi => by simp at hi⟩, ⟨rfl, fun i hi => by simp at hi⟩, ?_⟩
  · exact (J.rf.fill4 (by simp [Value.ownBlock]; omega) _ _ _ _ _ _).fill (by simp [Value.ownBlock]; omega) _ _ _ _ _ _
  · exact (ro.fill4 ob _ _ _ _ _ _).fill o_r _ _ _ _ _ _
  · exact (kN.fill4 nb _ _ _ _ _ _).fill nr _ _ _ _ _ _
  · exact (kU.fill4 ub _ _ _ _ _ _).fill ur _ _ _ _ _ _
  · exact (J.rt.fill4 (by simp [Value.ownBlock]; omega) _ _ _ _ _ _).fill (by simp [Value.ownBlock]; omega) _ _ _ _ _ _
  · exact (rx.fill4 xb _ _ _ _ _ _).fill xr _ _ _ _ _ _
  · exact ((J.fr.mono (fun k e => ⟨hF k e, fun e' => h.fb (e' ▸ e)⟩)).fill4 h.fb _ _ _ _ _ _).fill (fun e => by have := hF _ e; omega) _ _ _ _ _ _

theorem Row.form0 {w : World} {v : Value} (h : Row w v 0 []) : ∃ a c, v = .slice a 0 c := by
  rcases h.2 with ⟨rfl, _⟩ | ⟨g, cap, cur, rfl, _⟩
  · exact ⟨_, _, rfl⟩
  · exact ⟨_, _, rfl⟩

/-- nil into the scratch: the block is as it was -/
theorem Bld.nil10 {w : World} {b : Nat} {n : Int} {vn vu vw : Value} (h : Bld w b n vn vu vw) : Bld (w.setCell ⟨b, 10, none⟩ nilS) b n vn vu vw := heap_setCell_same w b 10 _ 49 _ h
theorem IG.nil10 {w wr : World} {b n : Nat} {vn vu vw : Value} {gb gf cf gw cw : Nat} {vt vx : Value} {fs ts : List Int} (h : IG w b n vn vu vw wr gb gf cf gw cw vt vx fs ts) : IG w b n vn vu vw (wr.setCell ⟨b, 10, none⟩ nilS) gb gf cf gw cw vt vx fs ts := by
  obtain ⟨n1, n2, n3, n4, n5, n6, n7⟩ := h.ne
  have hb := h.hb
  exact ⟨h.fr.setCell (by simp) _, h.blk.nil10, h.res.setFar (by simp; omega) _, h.gph.setFar (by simp; omega) _, h.rf.setOther _ (by simpa [Value.ownBlock] using n3), h.rt.setOther _ (by simpa [Value.ownBlock] using n4), h.hb, h.hgb, h.hgf, h.hgw⟩

set_option maxRecDepth 100000 in
set_option maxHeartbeats 8000000 in
/-- Graph, of no process -/
theorem graph_zero (F : Nat → Prop) (b : Nat) (w : World) (hF : ∀ k, F k → k < w.heap.size) (h : BS F w b 0 [] [] []) :
    Calls Try.prog 13 #[.pointer (some ⟨b, 0, none⟩)] w fun e w' => GOut F w 0 [] [] [] e w' := by
  obtain ⟨vn, vu, vw, h⟩ := h
  obtain ⟨an, c1, e1⟩ := h.rn.form0
  obtain ⟨au, c2, e2⟩ := h.ru.form0
  obtain ⟨av, cv, hvw, _⟩ := h.rw.form
  simp only [List.length_nil] at hvw
  subst e1 e2 hvw
  have d0 := h.blk.cell 0
  simp at d0
  have hbl := h.blk.lt
  go_enter Try.func13, Try.ntmps13
  go_wp2
  have hB : Bld (w.alloc (.cells #[nilS, nilS, nilS, nilS, nilS, nilS] 31)) b 0 (.slice an 0 c1) (.slice au 0 c2) (.slice av 0 cv) := h.blk.alloc _
  have hS : w.heap.size < (w.alloc (.cells #[nilS, nilS, nilS, nilS, nilS, nilS] 31)).heap.size := by simp
  generalize hW : w.alloc (.cells #[nilS, nilS, nilS, nilS, nilS, nilS] 31) = W at *
  have HW : Hid (w.alloc (.cells #[nilS, nilS, nilS, nilS, nilS, nilS] 31) = W) := hW
  clear hW d0
  have hw1 : IntKind.i64.wrap (1 : Int) = 1 := by rw [IntKind.wrap_i64]; rfl
  have d1 := hB.cell 1
  have d2 := hB.cell 2
  have d4 := hB.cell 4
  have d8 := hB.cell 8
  simp at d1 d2 d4 d8
  go_cut [4] (fun s4 wc => ∃ gb gf cf gw cw, s4 = .pointer (some ⟨gb, 0, none⟩) ∧ IG w b 0 (.slice an 0 c1) (.slice au 0 c2) (.slice av 0 cv) wc gb gf cf gw cw nilS nilS (List.replicate 1 0) (List.replicate 1 0))
  case first =>
    go_region_held3 (fun w' => w'.cell? ⟨b, 1, none⟩ = some (.slice an 0 c1) ∧ w'.cell? ⟨b, 2, none⟩ = some (.slice au 0 c2) ∧ w'.cell? ⟨b, 4, none⟩ = some nilS ∧ w'.cell? ⟨b, 8, none⟩ = some nilS ∧ Bld w' b 0 (.slice an 0 c1) (.slice au 0 c2) (.slice av 0 cv)) ((refine Bld.flds ?_; repeat (first | with_reducible refine Bld.setFar (by simp; omega) _ ?_ | with_reducible refine Bld.alloc _ ?_ | with_reducible refine Bld.drew ?_ | with_reducible refine Bld.fr hfB ?_ | with_reducible refine Bld.fr hfA ?_ | with_reducible exact hB))) (first | (go_at_call 29; have hh := hfA; refine (zeroed_posI _ 1 _ (by omega) (by omega) (by omega)).mono ?_; rintro e wB ⟨gB, cB, rfl, hrB, hsB, hfB⟩; have hzB := hfB.size; (try simp at hzB); (try simp at hsB); (try ((first | (with_reducible (have hq2 := Six.behind1 hfB)) | (with_reducible (have hq2 := Six.fr hfB hq))); obtain ⟨q0, q1, q2, q3, q4, q5, q6, q7, q8, q9, q10, q11⟩ := hq2.all))) | (go_at_call 29; refine (zeroed_posI _ 1 _ (by omega) (by omega) (by omega)).mono ?_; rintro e wA ⟨gA, cA, rfl, hrA, hsA, hfA⟩; have hzA := hfA.size; (try simp at hzA); (try simp at hsA); (try (first | (with_reducible (have hq := Six.behind1 hfA)) | (with_reducible (have hq := Six.behind2 hfA))))))
    all_goals go_wp2
    · go_meet
      case rel => exact ⟨_, _, _, _, _, rfl, start1 h.blk HW.out hrA hsA hfA hrB hsB hfB⟩
    · go_meet
      case rel => exact ⟨_, _, _, _, _, rfl, start2 h.blk HW.out hrA hsA hfA hrB hsB hfB⟩
    · go_meet
      case rel => exact ⟨_, _, _, _, _, rfl, start3 h.blk HW.out hrA hsA hfA hrB hsB hfB⟩
  case rest =>
    obtain ⟨gb, gf, cf, gw, cw, rfl, hI⟩ := hcut
    clear d1 d2 d4 d8 hB hw1 hS HW
    have I2 : IG w b 0 (.slice an 0 c1) (.slice au 0 c2) (.slice av 0 cv) wc gb gf cf gw cw nilS nilS [0] [0] := hI
    clear hI
    have d3 := I2.blk.cell 3
    simp at d3
    go_wp2
    refine wp_loop_rounds 1 ?_
    rw [rounds_succ]
    go_wp2
    refine wp_loop_rounds 1 ?_
    rw [rounds_succ]
    have B5 := I2.blk.cell 5
    have B3 := I2.blk.cell 3
    simp at B5 B3
    have n7 := I2.ne.2.2.2.2.2.2
    have hIB : Bld wc b (0 : Int) (.slice an 0 c1) (.slice au 0 c2) (.slice av 0 cv) := I2.blk
    go_upto_region 15 with fail
    go_region_held3 (fun w' => w'.cell? ⟨b, 5, none⟩ = some nilS ∧ w'.cell? ⟨b, 3, none⟩ = some (.slice av 0 cv) ∧ Bld w' b 0 (.slice an 0 c1) (.slice au 0 c2) (.slice av 0 cv)) ((refine Bld.flds2 ?_; repeat (first | with_reducible refine Bld.setFar (by simp; omega) _ ?_ | with_reducible refine Bld.drew ?_ | with_reducible refine Bld.fr hfA ?_ | with_reducible exact hIB))) (first | (go_at_call 29; refine (zeroed_anyI _ 0 _ (by first | rfl | simp) (by omega)).mono ?_; rintro e wA ⟨aA, cA, rfl, hrA, hsA, hfA⟩; have hq := Six.fr hfA I2.gph; have q1 := hq.cell 1; simp at q1; have q2 := hq.frozen 1))
    have I3 : IG w b 0 (.slice an 0 c1) (.slice au 0 c2) (.slice av 0 cv) (wA.setCell ⟨gb, 1, none⟩ (.slice aA 0 cA)) gb gf cf gw cw (.slice aA 0 cA) nilS [0] [0] := (I2.drew.frN hfA).to1 _
    have RT : Row (wA.setCell ⟨gb, 1, none⟩ (.slice aA 0 cA)) (.slice aA 0 cA) 0 (List.replicate 0 0) := hrA.setOther _ (hq.off (by decide) hrA)
    have T1 : ∀ g, (Value.slice aA 0 cA).ownBlock = some g → gw < g := fun g e => Nat.lt_of_lt_of_le I2.rt.lt (hsA g e)
    clear hrA hsA hfA hq q1 q2 B5 B3 hIB I2
    generalize wA.setCell ⟨gb, 1, none⟩ (.slice aA 0 cA) = X at *
    have B5 := I3.blk.cell 9
    have B3 := I3.blk.cell 3
    simp at B5 B3
    have hIB : Bld X b (0 : Int) (.slice an 0 c1) (.slice au 0 c2) (.slice av 0 cv) := I3.blk
    go_upto_region 16 with fail
    go_region_held3 (fun w' => w'.cell? ⟨b, 9, none⟩ = some nilS ∧ w'.cell? ⟨b, 3, none⟩ = some (.slice av 0 cv) ∧ Bld w' b 0 (.slice an 0 c1) (.slice au 0 c2) (.slice av 0 cv)) ((refine Bld.flds3 ?_; repeat (first | with_reducible refine Bld.setFar (by simp; omega) _ ?_ | with_reducible refine Bld.drew ?_ | with_reducible refine Bld.fr hfB ?_ | with_reducible exact hIB))) (first | (go_at_call 29; refine (zeroed_anyI _ 0 _ (by first | rfl | simp) (by omega)).mono ?_; rintro e wB ⟨aB, cB, rfl, hrB, hsB, hfB⟩; have hq := Six.fr hfB I3.gph; have q1 := hq.cell 5; simp at q1; have q2 := hq.frozen 5))
    have I4 : IG w b 0 (.slice an 0 c1) (.slice au 0 c2) (.slice av 0 cv) (wB.setCell ⟨gb, 5, none⟩ (.slice aB 0 cB)) gb gf cf gw cw (.slice aA 0 cA) (.slice aB 0 cB) [0] [0] := (I3.drew.frN hfB).to5 _
    have RX : Row (wB.setCell ⟨gb, 5, none⟩ (.slice aB 0 cB)) (.slice aB 0 cB) 0 (List.replicate 0 0) := hrB.setOther _ (hq.off (by decide) hrB)
    have RT2 : Row (wB.setCell ⟨gb, 5, none⟩ (.slice aB 0 cB)) (.slice aA 0 cA) 0 (List.replicate 0 0) := (RT.drew.frN hfB).setOther _ (hq.off (by decide) (RT.drew.frN hfB))
    have T2 : ∀ g, (Value.slice aB 0 cB).ownBlock = some g → gw < g ∧ (Value.slice aA 0 cA).ownBlock ≠ some g := fun g e => ⟨Nat.lt_of_lt_of_le I3.rt.lt (hsB g e), fun e' => by have := own_lt RT e'; have := hsB g e; simp at this; omega⟩
    clear hrB hsB hfB hq q1 q2 B5 B3 hIB I3 RT
    generalize wB.setCell ⟨gb, 5, none⟩ (.slice aB 0 cB) = Y at *
    have B10 := I4.blk.cell 10
    have F10 := I4.blk.frozen 10
    have c0 := I4.gph.cell 0
    have c4 := I4.gph.cell 4
    simp at B10 c0 c4
    have i5 : (0 : Int) ≤ (cf : Int) := by omega
    have i6 : (0 : Int) ≤ (cw : Int) := by omega
    go_upto_region 17 with fail
    go_big_region
    have I5 : IG w b 0 (.slice an 0 c1) (.slice au 0 c2) (.slice av 0 cv) (Y.setCell ⟨b, 10, none⟩ nilS).drew gb gf cf gw cw (.slice aA 0 cA) (.slice aB 0 cB) [0] [0] := I4.nil10.drew
    have ro := (RT2.setOther (p := ⟨b, 10, none⟩) nilS (I4.blk.off (by decide) RT2)).drew
    have rx := (RX.setOther (p := ⟨b, 10, none⟩) nilS (I4.blk.off (by decide) RX)).drew
    clear I4 RT2 RX B10 F10 c0 c4 i5 i6
    generalize (Y.setCell ⟨b, 10, none⟩ nilS).drew = Z at *
    have P10 := I5.blk.cell 10
    simp at P10
    go_upto_region 18 with fail
    go_quiet (fail)
    have J : IG w b 0 (.slice an 0 c1) (.slice au 0 c2) (.slice av 0 cv) (Z.drewN nq) gb gf cf gw cw (.slice aA 0 cA) (.slice aB 0 cB) [0] [0] :=
      ⟨⟨I5.fr.os, I5.fr.tape, I5.fr.output, I5.fr.size, I5.fr.block⟩, I5.blk, I5.res, I5.gph, I5.rf, I5.rt, I5.hb, I5.hgb, I5.hgf, I5.hgw⟩
    have ro2 : Row (Z.drewN nq) (.slice aA 0 cA) 0 [] := ro
    have rx2 : Row (Z.drewN nq) (.slice aB 0 cB) 0 [] := rx
    clear I5 ro rx P10
    generalize Z.drewN nq = V at *
    have P3 := J.blk.cell 3
    simp at P3
    go_wp2
    refine wp_loop_rounds 1 ?_
    rw [rounds_succ]
    obtain ⟨a0, a1, a2, a3, a4, a5, _⟩ := J.gph.all
    have b4 := J.blk.cell 4
    have b5 := J.blk.cell 5
    have b6 := J.blk.cell 6
    have b7 := J.blk.cell 7
    have b8 := J.blk.cell 8
    have b9 := J.blk.cell 9
    simp at b4 b5 b6 b7 b8 b9
    have f4 := J.blk.frozen 4
    have f5 := J.blk.frozen 5
    have f6 := J.blk.frozen 6
    have f7 := J.blk.frozen 7
    have f8 := J.blk.frozen 8
    have f9 := J.blk.frozen 9
    have r := J.res.all
    have e1 := J.ne.2.2.2.2.2.2
    have e2 : b ≠ w.heap.size := by omega
    have e3 : gb ≠ w.heap.size := by have := J.hgb; omega
    go_wp2
    refine bodyPost_ret (v := .agg #[.slice (some ⟨gf, 0, none⟩) 1 cf, .slice aA 0 cA, .slice an 0 c1, .slice au 0 c2, .slice (some ⟨gw, 0, none⟩) 1 cw, .slice aB 0 cB]) ?_ rfl ?_
    · simp [results, Try.results13, go_sem, r]
    · exact IG.fin0 hF h J ro2 rx2 T1 (fun g e => (T2 g e).1) _ _ _ _ _ _ _ _ _ _ _ _

end Go.Proofs.Qxb6003672a

import Derived.Test.Qxb6003682aWkLaw
namespace Go.Proofs.Qxb6003682a
open Go.RowKit
set_option linter.unusedVariables false
attribute [local go_sem] run_store_float

theorem le6 {d : Nat} (h : d ≤ 64) : d ≤ 2 ^ 6 := h
set_option exponentiation.threshold 3000 in
theorem small_no {y : Nat} (h : IsS y (2 ^ 1040)) : (FloatKind.f64.format.order y 4472406533629990549 == some .gt) = false := order_small h (Nat.pow_le_pow_right Nat.two_pos (by decide))

set_option maxRecDepth 100000 in
set_option maxHeartbeats 4000000 in
theorem law4 (a0 : Option Addr) (n cap0 : Nat) (Z : Nat → Int) (a1 : Option Addr) (lm cap1 : Nat) (M : Nat → Bool) (w : World) (w0 : Cel w a0 n cap0 (fun i => .int .i64 (Z i))) (w1 : Cel w a1 lm cap1 (fun i => .bool (M i))) (hn : n ≤ 64) (hm : lm ≤ 4096) (hn0 : 0 < n) :
    Calls Try.prog 4 #[.slice a0 n cap0, .slice a1 lm cap1] w fun e w' => e = .returned (.bool true) ∧ Below w.heap.size w w' := by
  have g0 := w0.get
  go_enter Try.func4, Try.ntmps4
  go_wp2_with fail
  refine (bytes14 _ _ _ _ _ _ _ (by omega) (by omega)).mono ?_
  rintro e w' ⟨⟨bb, rfl⟩, rfl⟩
  cases bb
  · go_wp2
    go_ret
    exact ⟨rfl, Below.refl _ _⟩
  go_upto_block 0 with fail
  go_cut [1] (fun s1 wc => s1 = .slice a1 lm cap1 ∧ (∃ q, w.drewN q = wc))
  case first =>
    as_aux_lemma =>
      clear w0 w1
      go_wp2
      go_loopw [5] (fun i wr => ∃ k q : Nat, k ≤ n + 1 ∧ 1 ≤ k ∧ i = .int .i64 k ∧ w.drewN q = wr ∧ Hid True) (fun i _ => n - (intOf i).toNat)
      case atStart => exact ⟨1, 0, by omega, Nat.le_refl _, rfl, rfl, trivial⟩
      case round =>
        obtain ⟨k, q, hk, hk1, rfl, rfl, _⟩ := hrel
        by_cases hlt : k < n
        · obtain ⟨x, rfl, hc⟩ := g0 k hlt
          obtain ⟨x', ex, hc'⟩ := g0 (k - 1) (by omega)
          simp at ex
          subst ex
          have f1 : ∀ m, (w.drewN m).cell? (x.add k) = some (.int .i64 (Z k)) := fun m => by rw [World.cell?_drewN]; exact hc
          have f2 : ∀ m, (w.drewN m).cell? (x.add (k - 1)) = some (.int .i64 (Z (k - 1))) := fun m => by rw [World.cell?_drewN]; exact hc'
          have wk : IntKind.i64.wrap ((k : Int) - 1) = ((k - 1 : Nat) : Int) := by rw [IntKind.wrap_i64]; omega
          have k1 : ((k - 1 : Nat) : Int) < (n : Int) := by omega
          clear g0 hc hc'
          generalize Z k = z at *
          generalize Z (k - 1) = z' at *
          generalize hkp : k - 1 = kp at *
          by_cases c1 : z ≤ z'
          · go_wp2
            go_quiet (fail)
            go_wp2
            go_ret
            exact ⟨rfl, ((Fr.drewN (Fr.refl (· < w.heap.size) w) q).drewN nq).below⟩
          have c2 : z' < z := by omega
          clear c1
          go_wp2
          go_quiet (fail)
          go_wp2
          go_roundw
          case rel => exact ⟨k + 1, _, by omega, by omega, by go_num, rfl, trivial⟩
          case measure => simp [intOf]; omega
        · go_wp2
          go_meet
          case rel => exact ⟨rfl, ⟨q, rfl⟩⟩
  case rest =>
    obtain ⟨rfl, ⟨q, rfl⟩⟩ := hcut
    clear g0
    have w0' := w0.drewN q
    have w1' := w1.drewN q
    have fB := (Fr.refl (· < w.heap.size) w).drewN q
    clear w0 w1
    generalize w.drewN q = wB at *
    go_wp2_with fail
    refine (cloneI64_any w0' (by omega) (fun i => rfl)).mono ?_
    rintro e wC ⟨aI, cI, rfl, oI, nI, fC⟩
    have w1C := w1'.fr fC (fun _ h => h)
    have fBC : Fr (· < w.heap.size) w wC := fB.trans (fC.mono (fun k h => Nat.lt_of_lt_of_le h fB.size))
    clear w0' w1' nI fB fC
    go_wp2_with fail
    refine (cloneBool_any w1C (by omega) (fun i => rfl)).mono ?_
    rintro e wD ⟨aM, cM, rfl, oM, nM, fD⟩
    have kI := (oI.frN fD).cel
    have kM := oM.cel
    have fBD : Fr (· < w.heap.size) w wD := fBC.trans (fD.mono (fun k h => Nat.lt_of_lt_of_le h fBC.size))
    clear oI w1C oM nM fD fBC
    go_wp2_with fail
    refine (adj_any _ _ _ M n wD hn kM).mono ?_
    rintro e wE ⟨gO, gA, cA, rfl, hA⟩
    have kI2 := kI.fr hA.fr (fun _ h => h)
    have fBE : Fr (· < w.heap.size) w wE := fBD.trans (hA.fr.mono (fun k h => Nat.lt_of_lt_of_le h fBD.size))
    clear kI kM fBD
    generalize lk M lm n = L at *
    have hT := adjL_le L n n (Nat.le_refl _) hn
    have HA := Hid.mk (And.intro hA (And.intro kI2 fBE))
    clear hA kI2 fBE
    generalize hTT : (adjL L n n).length = T at *
    have HTT := Hid.mk hTT
    clear hTT
    go_upto_block 2 with fail
    go_cut [6] (fun s6 wc => s6 = .int .i64 n ∧ Hid (∀ j, j < n → 0 < (rowL L j n).length) ∧ ∃ q, wE.drewN q = wc)
    case first =>
      as_aux_lemma =>
        have HB : Hid (∀ q, Below w.heap.size w (wE.drewN q)) := fun q => (HA.out.2.2.drewN q).below
        go_wp2
        go_loopw [9] (fun i wr => ∃ k q : Nat, k ≤ n ∧ i = .int .i64 k ∧ Hid (∀ j, j < k → 0 < (rowL L j n).length) ∧ wE.drewN q = wr) (fun i _ => n - (intOf i).toNat)
        case atStart => exact ⟨0, 0, Nat.zero_le _, rfl, fun j hj => by omega, rfl⟩
        case round =>
          obtain ⟨k, q, hk, rfl, HP, rfl⟩ := hrel
          by_cases hlt : k < n
          · have o0 := HA.out.1.off.cellAt k (by omega)
            have o1 := HA.out.1.off.cellAt (k + 1) (by omega)
            unfold offV at o0 o1
            rw [if_pos (by omega)] at o0 o1
            have hO1 : (adjL L n (k + 1)).length = (adjL L n k).length + (rowL L k n).length := by rw [adjL, List.length_append]
            have hb := adjL_le L n k (by omega) hn
            have hb2 := rowL_len L k n
            rw [hO1] at o1
            clear hO1
            generalize (adjL L n k).length = lo at *
            generalize hR : (rowL L k n).length = R at *
            have HR := Hid.mk hR
            clear hR
            have f3 : ∀ m, (wE.drewN m).cell? ⟨gO, k, none⟩ = some (.int .i64 lo) := fun m => by rw [World.cell?_drewN]; exact o0
            have f4 : ∀ m, (wE.drewN m).cell? ⟨gO, k + 1, none⟩ = some (.int .i64 ((lo + R : Nat) : Int)) := fun m => by rw [World.cell?_drewN]; exact o1
            clear o0 o1
            have wk : IntKind.i64.wrap ((k : Int) + 1) = ((k + 1 : Nat) : Int) := by rw [IntKind.wrap_i64]; omega
            have k1 : ((k + 1 : Nat) : Int) < ((n + 1 : Nat) : Int) := by omega
            have k2 : (k : Int) < ((n + 1 : Nat) : Int) := by omega
            by_cases hR0 : R = 0
            · subst hR0
              go_wp2
              go_quiet (fail)
              go_wp2
              go_ret
              refine ⟨rfl, ?_⟩
              rw [World.drewN_drewN]
              exact HB.out _
            · have hne : ¬ (((lo + R : Nat) : Int) = (lo : Int)) := by omega
              have hne2 : ¬ ((lo : Int) + (R : Int) = (lo : Int)) := by omega
              go_wp2
              go_quiet (fail)
              go_wp2
              go_roundw
              case rel =>
                refine ⟨k + 1, _, by omega, by go_num, fun j hj => ?_, rfl⟩
                by_cases e : j = k
                · subst e; rw [HR.out]; omega
                · exact HP.out j (by omega)
              case measure => simp [intOf]; omega
          · have e : k = n := by omega
            subst e
            go_wp2
            go_meet
            case rel => exact ⟨rfl, HP, q, rfl⟩
    case rest =>
      obtain ⟨rfl, HDEG, q, rfl⟩ := hcut
      have hA := HA.out.1.drewN q
      have kI2 := HA.out.2.1.drewN q
      have fBE := HA.out.2.2.drewN q
      clear HA
      generalize wE.drewN q = wE2 at *
      have hG := hA.graph kI2
      rw [HTT.out] at hG
      have HG := Hid.mk hG
      have HFE := Hid.mk fBE
      clear hA kI2 fBE hG
      go_wp2_with fail
      refine (zzgraph _ _ _ _ _ _ _ _ _ wE2).mono ?_
      rintro e wF ⟨rfl, eF⟩
      have fF : Fr (· < wE2.heap.size) wE2 wF := by rw [← eF]; exact (Fr.refl _ wE2).alloc (fun _ e => e) _
      have HG2 : Hid (Gr wF wE2.heap.size L n Z aI cI gO gA cA) := by rw [← eF]; exact HG
      have HFF : Hid (Fr (· < w.heap.size) w wF) := HFE.out.trans (fF.mono (fun k h => Nat.lt_of_lt_of_le h HFE.out.size))
      clear HG eF fF HFE
      generalize wE2.heap.size = gG at *
      go_wp2_with fail
      refine (zzwop_any gG L n Z aI cI gO gA cA wF hn hn0 HG2.out HDEG.out).mono ?_
      rintro e wG ⟨p, N, gW, gT, fW, fT, rfl, hN, hW⟩
      have hWR := wr_made (HG2.out.fr hW.fr) hW
      have HND : Hid (∀ j, j < n → Nd T N (rowL L j n).length (fW j) (fT j)) := by rw [← HTT.out]; exact hW.nd
      have HNm : Hid (Nm T N) := by rw [← HTT.out]; exact hN
      have HFG : Hid (Fr (· < w.heap.size) w wG) := HFF.out.trans (hW.fr.mono (fun k h => Nat.lt_of_lt_of_le h HFF.out.size))
      have HWR := Hid.mk hWR
      clear hN hW hWR HG2 HFF
      go_upto_block 4 with fail
      go_cut [13] (fun s13 wc => ∃ x, s13 = .float .f64 x ∧ Hid (Q1 T T n x) ∧ ∃ q, wG.drewN q = wc)
      case first =>
        as_aux_lemma =>
          go_wp2
          go_loopw [13, 14] (fun s i wr => ∃ k q x : Nat, k ≤ n ∧ i = .int .i64 k ∧ s = .float .f64 x ∧ wG.drewN q = wr ∧ Hid (Q1 T (adjL L n k).length k x)) (fun _ i _ => n - (intOf i).toNat)
          case atStart => exact ⟨0, 0, 0, Nat.zero_le _, rfl, rfl, rfl, Q1.zero T⟩
          case round =>
            obtain ⟨k, q, x, hk, rfl, rfl, rfl, HQ⟩ := hrel
            by_cases hlt : k < n
            · have ct := HWR.out.rt k hlt
              have hO1 : (adjL L n (k + 1)).length = (adjL L n k).length + (rowL L k n).length := by rw [adjL, List.length_append]
              have hle : (adjL L n k).length + (rowL L k n).length ≤ T := by
                obtain ⟨ys, e⟩ := adjL_mid L n k hlt
                rw [← HTT.out, e]
                simp
              obtain ⟨p1, r1, hm1, ha1, hq⟩ := HQ.out.step HNm.out (HND.out k hlt) (by omega) hle
              rw [← hO1] at hq
              have HQ2 := Hid.mk hq
              have q1 := fun w => run_float_arith (P := Try.prog) w .mul 41 .f64 (fT k) (fT k) p1 hm1
              have q2 := fun w => run_float_arith (P := Try.prog) w .add 41 .f64 x p1 r1 ha1
              have f1 : ∀ m, (wG.drewN m).cell? ⟨gT, k, none⟩ = some (.float .f64 (fT k)) := fun m => by rw [World.cell?_drewN]; exact ct
              clear ct hO1 hle hm1 ha1 hq HQ
              generalize fT k = xt at *
              have i2 : (k : Int) < (n : Int) := by omega
              go_wp2
              go_quiet (fail)
              go_wp2
              go_roundw
              case rel => exact ⟨k + 1, _, r1, by omega, by go_num, rfl, rfl, HQ2.out⟩
              case measure => simp [intOf]; omega
            · have e : k = n := by omega
              subst e
              have HQ2 : Hid (Q1 T T k x) := by have := HQ.out; rw [HTT.out] at this; exact this
              clear HQ
              go_wp2
              go_meet
              case rel => exact ⟨x, rfl, HQ2, q, rfl⟩
      case rest =>
        obtain ⟨x, rfl, HQ, q, rfl⟩ := hcut
        have hT0 : 0 < T := HNm.out.2.2.2
        obtain ⟨r, hr, hs⟩ := HQ.out.fin hT0 hn
        obtain ⟨y, hy, hc⟩ := abs_det hs
        have ho : (FloatKind.f64.format.order y 4472406533629990549 == some .gt) = false := small_no hy
        have q1 := fun w => run_float_arith (P := Try.prog) w .sub 41 .f64 x 4607182418800017408 r hr
        have HC := Hid.mk hc
        clear hr hs hy hc HQ hT0
        go_wp2_with fail
        refine (HC.out _).mono ?_
        rintro e w' ⟨rfl, rfl⟩
        clear q1 HC
        go_upto_block 6 with fail
        clear ho
        go_wp2
        go_loopw [15] (fun i wr => ∃ k q : Nat, k ≤ n ∧ i = .int .i64 k ∧ wG.drewN q = wr ∧ Hid True) (fun i _ => n - (intOf i).toNat)
        case atStart => exact ⟨0, q, Nat.zero_le _, rfl, rfl, trivial⟩
        case round =>
          obtain ⟨k, q, hk, rfl, rfl, _⟩ := hrel
          by_cases hlt : k < n
          · have o0 := HWR.out.off k (by omega)
            have o1 := HWR.out.off (k + 1) (by omega)
            have cw := HWR.out.rw k hlt
            have ct := HWR.out.rt k hlt
            have hO1 : (adjL L n (k + 1)).length = (adjL L n k).length + (rowL L k n).length := by rw [adjL, List.length_append]
            have hle : (adjL L n k).length + (rowL L k n).length ≤ T := by
              obtain ⟨ys, e⟩ := adjL_mid L n k hlt
              rw [← HTT.out, e]
              simp
            have hd0 := HDEG.out k hlt
            have hdn := rowL_len L k n
            have hnd := HND.out k hlt
            have hadj : ∀ j, j < (rowL L k n).length → (rowL L k n).getD j 0 < n ∧ wG.cell? ⟨gA, (adjL L n k).length + j, none⟩ = some (.int .i32 (((rowL L k n).getD j 0 : Nat) : Int)) := fun j hj => by
              have h1 := HWR.out.adj ((adjL L n k).length + j) (by rw [HTT.out]; omega)
              rw [adjL_at L n k j hlt hj] at h1
              exact ⟨rowL_lt L k n j hj, h1⟩
            rw [hO1] at o1
            clear hO1
            obtain ⟨xdv, vd, ndd⟩ := isV_ofNat (rowL L k n).length hd0 (lt20 (by omega))
            obtain ⟨p1, p2, p3, m1, m2, m3, hs⟩ := wt_check hnd vd ndd hd0 (le6 (by omega))
            obtain ⟨y, hy, hc⟩ := abs_det hs
            have ho : (FloatKind.f64.format.order y 4472406533629990549 == some .gt) = false := small_no hy
            have og1 : FloatKind.f64.format.order (fW k) 0 = some .gt := gt_of hnd.pos.1
            have og2 : FloatKind.f64.format.order (fT k) 0 = some .gt := gt_of hnd.pos.2
            have q1 := fun w => run_float_arith (P := Try.prog) w .mul 41 .f64 (fW k) (fW k) p1 m1
            have q2 := fun w => run_float_arith (P := Try.prog) w .mul 41 .f64 p1 (floatOfInt .f64 ((rowL L k n).length : Int)) p2 m2
            have q3 := fun w => run_float_arith (P := Try.prog) w .sub 41 .f64 p2 4607182418800017408 p3 m3
            have HC := Hid.mk hc
            have HADJ := Hid.mk hadj
            have HNDk := Hid.mk hnd
            clear m1 m2 m3 hs hy hc hadj vd ndd hnd
            generalize (adjL L n k).length = lo at *
            generalize hRR : (rowL L k n).length = R at *
            generalize hfw : fW k = xw at *
            generalize hft : fT k = xt at *
            have f1 : ∀ m, (wG.drewN m).cell? ⟨gO, k, none⟩ = some (.int .i64 lo) := fun m => by rw [World.cell?_drewN]; exact o0
            have f2 : ∀ m, (wG.drewN m).cell? ⟨gO, k + 1, none⟩ = some (.int .i64 ((lo + R : Nat) : Int)) := fun m => by rw [World.cell?_drewN]; exact o1
            have f3 : ∀ m, (wG.drewN m).cell? ⟨gW, k, none⟩ = some (.float .f64 xw) := fun m => by rw [World.cell?_drewN]; exact cw
            have f4 : ∀ m, (wG.drewN m).cell? ⟨gT, k, none⟩ = some (.float .f64 xt) := fun m => by rw [World.cell?_drewN]; exact ct
            have HNAM := Hid.mk (And.intro hRR (And.intro hfw hft))
            clear o0 o1 cw ct hRR hfw hft
            have wk : IntKind.i64.wrap ((k : Int) + 1) = ((k + 1 : Nat) : Int) := by rw [IntKind.wrap_i64]; omega
            have k1 : ((k + 1 : Nat) : Int) < ((n + 1 : Nat) : Int) := by omega
            have k2 : (k : Int) < ((n + 1 : Nat) : Int) := by omega
            have k3 : (k : Int) < (n : Int) := by omega
            have ws : IntKind.i64.wrap (((lo + R : Nat) : Int) - (lo : Int)) = (R : Int) := by rw [IntKind.wrap_i64]; omega
            have ws2 : IntKind.i64.wrap ((lo : Int) + (R : Int) - (lo : Int)) = (R : Int) := by rw [IntKind.wrap_i64]; omega
            go_upto_region 37 with fail
            go_quiet (fail)
            go_upto_region 40 with fail
            go_big_quiet ((go_at_call 16; exact (HC.out _).mono (fun e w2 h => ⟨h.1, _, h.2⟩)))
            clear ws ws2 q1 q2 q3 HC
            go_upto_block 8 with fail
            clear ho og1 og2
            go_cut [17] (fun s17 wc => ∃ x q : Nat, s17 = .float .f64 x ∧ Hid (Q3 N R x) ∧ wG.drewN q = wc)
            case first =>
              as_aux_lemma =>
                have HQ0 : Hid (Q3 N 0 0) := Q3.zero N
                go_wp2
                go_loopw [17, 18] (fun s i wr => ∃ j x q : Nat, j ≤ R ∧ i = .int .i64 ((lo + j : Nat) : Int) ∧ s = .float .f64 x ∧ wG.drewN q = wr ∧ Hid (Q3 N j x)) (fun _ i _ => lo + R - (intOf i).toNat)
                case atStart => exact ⟨0, 0, _, Nat.zero_le _, by simp, rfl, rfl, HQ0⟩
                case round =>
                  clear HQ0
                  obtain ⟨j, x, q, hj, rfl, rfl, rfl, HQ⟩ := hrel
                  by_cases hjl : j < R
                  · obtain ⟨hjn, ca⟩ := HADJ.out j hjl
                    have cw := HWR.out.rw _ hjn
                    have ct := HWR.out.rt _ hjn
                    obtain ⟨p1, r1, m1, m2, hq⟩ := HQ.out.step HNm.out (HND.out _ hjn) (by omega)
                    have HQ2 := Hid.mk hq
                    generalize (rowL L k n).getD j 0 = jj at *
                    have q1 := fun w => run_float_arith (P := Try.prog) w .mul 41 .f64 (fW jj) (fT jj) p1 m1
                    have q2 := fun w => run_float_arith (P := Try.prog) w .add 41 .f64 x p1 r1 m2
                    clear hq HQ m1 m2
                    generalize fW jj = xw2 at *
                    generalize fT jj = xt2 at *
                    have f5 : ∀ m, (wG.drewN m).cell? ⟨gA, lo + j, none⟩ = some (.int .i32 (jj : Int)) := fun m => by rw [World.cell?_drewN]; exact ca
                    have f6 : ∀ m, (wG.drewN m).cell? ⟨gW, jj, none⟩ = some (.float .f64 xw2) := fun m => by rw [World.cell?_drewN]; exact cw
                    have f7 : ∀ m, (wG.drewN m).cell? ⟨gT, jj, none⟩ = some (.float .f64 xt2) := fun m => by rw [World.cell?_drewN]; exact ct
                    clear ca cw ct
                    generalize hpp : lo + j = pp at *
                    have j1 : (pp : Int) < (T : Int) := by omega
                    have j2 : (jj : Int) < (n : Int) := by omega
                    have j3 : (pp : Int) < ((lo + R : Nat) : Int) := by omega
                    go_upto_region 49 with fail
                    go_quiet (fail)
                    go_wp2
                    go_roundw
                    case rel => exact ⟨j + 1, r1, _, by omega, by go_num, rfl, rfl, HQ2⟩
                    case measure => simp [intOf]; omega
                  · have e : j = R := by omega
                    subst e
                    go_wp2
                    go_meet
                    case rel => exact ⟨x, q, rfl, HQ, rfl⟩
            case rest =>
              obtain ⟨x, q, rfl, HQ, rfl⟩ := hcut
              obtain ⟨p1, p2, m1, m2, hs⟩ := HQ.out.fin HNm.out HNDk.out hd0 (by omega)
              obtain ⟨y, hy, hc⟩ := abs_det hs
              have ho : (FloatKind.f64.format.order y 4472406533629990549 == some .gt) = false := small_no hy
              have q1 := fun w => run_float_arith (P := Try.prog) w .mul 41 .f64 x xw p1 m1
              have q2 := fun w => run_float_arith (P := Try.prog) w .sub 41 .f64 p1 xt p2 m2
              have HC := Hid.mk hc
              clear m1 m2 hs hy hc HQ
              go_wp2_with fail
              refine (HC.out _).mono ?_
              rintro e w' ⟨rfl, rfl⟩
              clear q1 q2 HC
              go_wp2
              go_roundw
              case rel => exact ⟨k + 1, _, by omega, by go_num, rfl, trivial⟩
              case measure => simp [intOf]; omega
          · have e : k = n := by omega
            subst e
            have HB : Hid (Below w.heap.size w (wG.drewN q)) := (HFG.out.drewN q).below
            go_wp2
            go_ret
            exact ⟨rfl, HB.out⟩

end Go.Proofs.Qxb6003682a

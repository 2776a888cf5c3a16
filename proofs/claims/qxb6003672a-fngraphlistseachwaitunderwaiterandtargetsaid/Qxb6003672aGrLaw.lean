import Derived.Test.Qxb6003672aFits
import Derived.Test.Qxb6003672aGrPlain
namespace Go.Proofs.Qxb6003672a
open Go.RowKit
set_option linter.unusedVariables false
attribute [local go_sem ↓] Go.wp_at_zero Go.wp_at_succ

/-- the keys of two rows of numbers -/
def ku (us : List Int) (i : Nat) : Nat := (us.getD i 0).toNat

/-- Wait at the k-th wait -/
theorem wait_any (F : Nat → Prop) (b n k : Nat) (us ts : List Int) (V T R : Int) (w : World) (hV : V = us.getD k 0) (hT : T = ts.getD k 0) (hR : R = us.getD k 0) (hF : ∀ k, F k → k < w.heap.size) (h : BS F w b n (tab n (CK (ku us) k)) (List.replicate n (-1)) (wl us ts k))
    (hn : n ≤ 1024) (hk : k ≤ 4096) (hu : 0 ≤ us.getD k 0 ∧ us.getD k 0 < n) :
    Calls Try.prog 11 #[.pointer (some ⟨b, 0, none⟩), .int .i64 V, .int .i64 T, .int .i64 R] w fun e w' => e = .returned (.tuple #[]) ∧ BS F w' b n (tab n (CK (ku us) (k + 1))) (List.replicate n (-1)) (wl us ts (k + 1)) ∧ Fr F w w' := by
  subst hV hT hR
  have e1 : us.getD k 0 = ((ku us k : Nat) : Int) := by unfold ku; omega
  have hk2 : ku us k < n := by unfold ku; omega
  have hl := tab_len n (CK (ku us) k)
  have hw := wl_len us ts k
  have hb := CK_bd (ku us) n k hk2
  have c := wait_lt F b n (tab n (CK (ku us) k)) (List.replicate n (-1)) (wl us ts k) (us.getD k 0) (ts.getD k 0) (ku us k) w hF h hk2 (by omega) (by omega) (by omega) ⟨hb.1, by omega⟩
  rw [← e1] at c
  refine c.mono ?_
  rintro e w' ⟨rfl, h1, h2⟩
  rw [CK_succ _ _ _ hk2, ← wl_succ] at h1
  exact ⟨rfl, h1, h2⟩

/-- Graph behind m waits -/
theorem graph3 {F : Nat → Prop} {b n m : Nat} {us ts : List Int} {w : World} (h : BS F w b n (tab n (CK (ku us) m)) (List.replicate n (-1)) (wl us ts m))
    (hF : ∀ k, F k → k < w.heap.size) (hn : n ≤ 1024) (hm : m ≤ 4096) (hu : ∀ j, j < m → 0 ≤ us.getD j 0 ∧ us.getD j 0 < n) (ht : ∀ j, j < m → 0 ≤ ts.getD j 0 ∧ ts.getD j 0 < n) :
    Calls Try.prog 13 #[.pointer (some ⟨b, 0, none⟩)] w fun e w' => ∃ (a1 : Option Addr) (c1 : Nat) (a2 : Option Addr) (c2 : Nat) (a3 : Option Addr) (c3 : Nat) (a4 : Option Addr) (c4 : Nat) (a5 : Option Addr) (c5 : Nat) (a6 : Option Addr) (c6 : Nat) (tos xs : List Int),
      e = .returned (.agg #[.slice a1 (n + 1) c1, .slice a2 m c2, .slice a3 n c3, .slice a4 n c4, .slice a5 (n + 1) c5, .slice a6 m c6]) ∧
      Row w' (.slice a1 (n + 1) c1) (n + 1) (tab (n + 1) (fun j => (lo (ku us) j m : Int))) ∧ Row w' (.slice a2 m c2) m tos ∧ Row w' (.slice a3 n c3) n (tab n (CK (ku us) m)) ∧
      Row w' (.slice a4 n c4) n (List.replicate n (-1)) ∧ Row w' (.slice a5 (n + 1) c5) (n + 1) (tab (n + 1) (fun j => (lo (ku ts) j m : Int))) ∧ Row w' (.slice a6 m c6) m xs ∧
      Filled (ku us) m (fun i => ts.getD i 0) m tos ∧ Filled (ku ts) m (fun i => us.getD i 0) m xs ∧ Fr F w w' := by
  have hw := wl_len us ts m
  have hl := tab_len n (CK (ku us) m)
  have k1 : ∀ i, i < m → kv (wl us ts m) i = ku us i := fun i hi => by unfold kv ku; rw [wl_get us ts m i hi]
  have k2 : ∀ i, i < m → kt (wl us ts m) i = ku ts i := fun i hi => by unfold kt ku; rw [wl_get us ts m i hi]
  have C : Calls Try.prog 13 #[.pointer (some ⟨b, 0, none⟩)] w fun e w' => GOut F w n (tab n (CK (ku us) m)) (List.replicate n (-1)) (wl us ts m) e w' := by
    by_cases h0 : n = 0
    · subst h0
      have hm0 : m = 0 := by
        rcases Nat.eq_zero_or_pos m with e | e
        · exact e
        · have := hu 0 e; omega
      subst hm0
      exact graph_zero F b w hF h
    · refine graph_pos F b n _ _ _ w hF h (by omega) (by omega) (by omega) (by simp) (by omega) ?_
      intro e he
      obtain ⟨i, hi, rfl⟩ := List.mem_map.1 he
      have hi' : i < m := by simpa using hi
      have h1 := hu i hi'
      have h2 := ht i hi'
      exact ⟨h1.1, h1.2, h2.1, h2.2⟩
  refine C.mono ?_
  rintro e w' ⟨a1, c1, a2, c2, a3, c3, a4, c4, a5, c5, a6, c6, tos, xs, rfl, r1, r2, r3, r4, r5, r6, f1, f2, fr⟩
  rw [hw] at r1 r2 r5 r6 f1 f2
  rw [hl] at r3
  rw [List.length_replicate] at r4
  rw [tab_lo_congr (n + 1) m k1] at r1
  rw [tab_lo_congr (n + 1) m k2] at r5
  refine ⟨a1, c1, a2, c2, a3, c3, a4, c4, a5, c5, a6, c6, tos, xs, by simp only [hw, hl, List.length_replicate], r1, r2, r3, r4, r5, r6, f1.congr k1 (fun i hi => by rw [wl_get us ts m i hi]), f2.congr k2 (fun i hi => by rw [wl_get us ts m i hi]), fr⟩

set_option maxRecDepth 100000 in
set_option maxHeartbeats 4000000 in
theorem law3 (a0 : Option Addr) (l0 cap0 : Nat) (z0 : List Int) (a1 : Option Addr) (l1 cap1 : Nat) (z1 : List Int) (n0 : Int) (w : World) (w0 : IsRow .i64 w a0 l0 cap0 z0) (w1 : IsRow .i64 w a1 l1 cap1 z1) (hm0 : l0 ≤ 4096) (hm1 : l1 ≤ 4096) :
    Calls Try.prog 3 #[.int .i64 n0, .slice a0 l0 cap0, .slice a1 l1 cap1] w fun e w' => e = .returned (.bool true) ∧ Below w.heap.size w w' := by
  go_enter Try.func3, Try.ntmps3
  go_wp2_with fail
  refine (bytes7 _ _ _ _ _ _ _ _ (by omega) (by omega)).mono ?_
  rintro e w' ⟨⟨bb, rfl⟩, rfl⟩
  cases bb
  · go_wp2
    go_ret
    exact ⟨rfl, Below.refl _ _⟩
  go_wp2_with fail
  refine (fitsWaits_any n0 a0 l0 cap0 z0 a1 l1 cap1 z1 w w0 w1 hm0 hm1).mono ?_
  rintro e w' ⟨⟨r, rfl, hr⟩, rfl⟩
  cases r
  · clear hr
    go_wp2
    go_ret
    exact ⟨rfl, Below.refl _ _⟩
  obtain ⟨e1, n1, n2, hu, ht⟩ := hr rfl
  clear hr
  subst e1
  obtain ⟨n, rfl⟩ := Int.eq_ofNat_of_zero_le n1
  have hn : n ≤ 1024 := by omega
  have HU := Hid.mk' hu
  have HT := Hid.mk' ht
  clear hu ht n1 n2 hm1
  go_wp2_with fail
  refine (clone_any w0 (by omega)).mono ?_
  rintro e wA ⟨vU, rfl, rU, fA, atU⟩
  obtain ⟨aU, cU, eU⟩ := rU.formS
  subst eU
  have w1A := w1.fr fA (fun _ h => h)
  clear w1
  go_wp2_with fail
  refine (clone_any w1A (by omega)).mono ?_
  rintro e wB ⟨vX, rfl, rX, fB, atX⟩
  obtain ⟨aX, cX, eX⟩ := rX.formS
  subst eX
  have rU2 := rU.frN fB
  have fAB : Fr (· < w.heap.size) w wB := fA.trans (fB.mono (fun k h => Nat.lt_of_lt_of_le h fA.size))
  clear rU w1A fA fB w0 atU atX
  go_wp2_with fail
  refine (new_any n _ (by omega)).mono ?_
  rintro e wC ⟨b, rfl, hBS, fC⟩
  generalize hus : (z0.take l0) = us at *
  generalize hts : (z1.take l0) = ts at *
  generalize hm : l0 = m at *
  clear hus hts hm
  have hBS2 : BS (fun k => k < wB.heap.size) wC b n (tab n (CK (ku us) 0)) (List.replicate n (-1)) (wl us ts 0) := by rw [← CK_zero]; exact hBS
  clear hBS
  go_upto_block 0 with fail
  go_cut [8] (fun s8 wE => s8 = .pointer (some ⟨b, 0, none⟩) ∧ BS (fun k => k < wB.heap.size) wE b n (tab n (CK (ku us) m)) (List.replicate n (-1)) (wl us ts m) ∧ Fr (· < wB.heap.size) wB wE)
  case first =>
    go_wp2
    go_loopw [9] (fun i wr => ∃ k : Nat, k ≤ m ∧ i = .int .i64 k ∧ BS (fun k => k < wB.heap.size) wr b n (tab n (CK (ku us) k)) (List.replicate n (-1)) (wl us ts k) ∧ Fr (· < wB.heap.size) wB wr) (fun i _ => m - (intOf i).toNat)
    case atStart => exact ⟨0, Nat.zero_le _, rfl, hBS2, fC⟩
    case round =>
      clear hBS2 fC fAB
      obtain ⟨k, hk, rfl, B, f⟩ := hrel
      by_cases hlt : k < m
      · obtain ⟨gU, eU, oU, cU1, _⟩ := rU2.get k hlt
        obtain ⟨gX, eX, oX, cX1, _⟩ := rX.get k hlt
        subst eU eX
        have lU := own_lt rU2 oU
        have lX := own_lt rX oX
        have hu0 := Hid.mk' (HU.out k hlt)
        have dU : wr.cell? ⟨gU, k, none⟩ = some (.int .i64 (us.getD k 0)) := (f.cell (p := ⟨gU, k, none⟩) lU).trans cU1
        have dX : wr.cell? ⟨gX, k, none⟩ = some (.int .i64 (ts.getD k 0)) := (f.cell (p := ⟨gX, k, none⟩) lX).trans cX1
        have i1 : (0 : Int) ≤ (k : Int) := by omega
        have i2 : (k : Int) < (m : Int) := by omega
        have HB := Hid.mk' B
        have HF := Hid.mk' f
        have HF2 : Hid (∀ k, k < wB.heap.size → k < wr.heap.size) := fun k h => by have := f.size; omega
        clear B f HU HT rU2 rX cU1 cX1 oU oX
        generalize hU' : us.getD k 0 = U at *
        generalize hX' : ts.getD k 0 = X at *
        have HU' := Hid.mk' hU'
        have HX' := Hid.mk' hX'
        have HU0 : Hid (0 ≤ us.getD k 0 ∧ us.getD k 0 < n) := by rw [hU']; exact hu0.out
        clear hU' hX' hu0
        go_wp2
        go_region_held3 (fun w' => w'.cell? ⟨gU, k, none⟩ = some (.int .i64 U) ∧ w'.cell? ⟨gX, k, none⟩ = some (.int .i64 X)) ((refine And.intro ?_ ?_; (first | exact dU | exact (hfA.cell (p := ⟨gU, k, none⟩) lU).trans dU); (first | exact dX | exact (hfA.cell (p := ⟨gX, k, none⟩) lX).trans dX))) (first | (go_at_call 11; refine (wait_any (fun k => k < wB.heap.size) b n k us ts U X U wr.drew HU'.out.symm HX'.out.symm HU'.out.symm HF2.out HB.out.drew hn (by omega) HU0.out).mono ?_; rintro e wA ⟨rfl, hBA, hfA⟩))
        go_wp2
        go_roundw
        case rel => exact ⟨k + 1, by omega, by go_num, hBA, HF.out.drew.trans hfA⟩
        case measure => simp [intOf]; omega
      · have e : k = m := by omega
        subst e
        go_wp2
        go_meet
        case rel => exact ⟨rfl, B, f⟩
  case rest =>
    obtain ⟨rfl, B, f⟩ := hcut
    clear hBS2 fC
    go_wp2_with fail
    refine (graph3 B (by have := f.size; omega) hn (by omega) HU.out HT.out).mono ?_
    rintro e wF hO
    obtain ⟨a1', c1, a2, c2, a3, c3, a4, c4, a5, c5, a6, c6, tos, xs, rfl, r1, r2, r3, r4, r5, r6, f1, f2, fF⟩ := hO
    have rU3 := (rU2.fr f (fun g e => own_lt rU2 e)).fr fF (fun g e => own_lt rU2 e)
    have rX3 := (rX.fr f (fun g e => own_lt rX e)).fr fF (fun g e => own_lt rX e)
    have fW : Fr (· < w.heap.size) w wF := (fAB.trans (f.mono (fun k h => by have := fAB.size; omega))).trans (fF.mono (fun k h => by have := fAB.size; omega))
    clear B f fF fAB rU2 rX
    go_wp2_with fail
    refine (fields_any _ _ _ _ _ _ _ _ _ _ _ _ _ _ _ _ _ _ _).mono ?_
    rintro e wH ⟨rfl, fH⟩
    have qU := rU3.frN fH
    have qX := rX3.frN fH
    have q1 := r1.frN fH
    have q2 := r2.frN fH
    have q3 := r3.frN fH
    have q4 := r4.frN fH
    have q5 := r5.frN fH
    have q6 := r6.frN fH
    have fW2 : Fr (· < w.heap.size) w wH := fW.trans (fH.mono (fun k h => by have := fW.size; omega))
    have FIN : Hid (Below w.heap.size w wH) := fW2.below
    have F1 := Hid.mk' f1
    have F2 := Hid.mk' f2
    clear rU3 rX3 r1 r2 r3 r4 r5 r6 fW fH fW2 f1 f2
    obtain ⟨g1, e1, o1, c10, _⟩ := q1.get 0 (by omega)
    obtain ⟨g5, e5, o5, c50, _⟩ := q5.get 0 (by omega)
    subst e1 e5
    have c1n := q1.cell n (by omega)
    have c5n := q5.cell n (by omega)
    rw [tab_get _ _ _ (by omega)] at c10 c50 c1n c5n
    have z1 : lo (ku us) 0 m = 0 := lo_zero _ _
    have z2 : lo (ku ts) 0 m = 0 := lo_zero _ _
    have z3 : lo (ku us) n m = m := lo_all _ _ _ (fun i hi => by have := HU.out i hi; unfold ku; omega)
    have z4 : lo (ku ts) n m = m := lo_all _ _ _ (fun i hi => by have := HT.out i hi; unfold ku; omega)
    rw [z1] at c10
    rw [z2] at c50
    rw [z3] at c1n
    rw [z4] at c5n
    clear z1 z2 z3 z4
    go_upto_block 2 with fail
    go_cut [7] (fun s7 wI => s7 = .int .i64 m ∧ ∃ q, wH.drewN q = wI)
    case first =>
      go_wp2
      go_loopw [16] (fun i wr => ∃ u : Nat, u ≤ n ∧ i = .int .i64 u ∧ ∃ q, wH.drewN q = wr) (fun i _ => n - (intOf i).toNat)
      case atStart => exact ⟨0, Nat.zero_le _, rfl, 0, rfl⟩
      case round =>
        obtain ⟨u, hu, rfl, q, rfl⟩ := hrel
        clear c10 c50 c1n c5n
        by_cases hlt : u < n
        · have d1 := q1.cell u (by omega)
          have d2 := q1.cell (u + 1) (by omega)
          have d3 := q5.cell u (by omega)
          have d4 := q5.cell (u + 1) (by omega)
          rw [tab_get _ _ _ (by omega)] at d1 d2 d3 d4
          have l1 := lo_mono (ku us) m u 1
          have l2 := lo_mono (ku ts) m u 1
          clear q1 q2 q3 q4 q5 q6 qU qX HU HT FIN F1 F2
          generalize lo (ku us) u m = p1 at *
          generalize lo (ku us) (u + 1) m = p2 at *
          generalize lo (ku ts) u m = p3 at *
          generalize lo (ku ts) (u + 1) m = p4 at *
          have i1 : (0 : Int) ≤ (u : Int) := by omega
          have i2 : (u : Int) < (n : Int) + 1 := by omega
          have i3 : (0 : Int) ≤ (u : Int) + 1 := by omega
          have i4 : (u : Int) + 1 < (n : Int) + 1 := by omega
          have i5 : (u : Int) < ((n + 1 : Nat) : Int) := by omega
          have i6 : (u : Int) + 1 < ((n + 1 : Nat) : Int) := by omega
          have wr1 : IntKind.i64.wrap ((u : Int) + 1) = (u : Int) + 1 := by rw [IntKind.wrap_i64]; omega
          have g1' : decide ((p2 : Int) < (p1 : Int)) = false := decide_eq_false (by omega)
          have g2' : decide ((p4 : Int) < (p3 : Int)) = false := decide_eq_false (by omega)
          go_wp2
          go_quiet (fail)
          go_wp2
          go_roundw
          case rel => exact ⟨u + 1, by omega, by go_num, _, rfl⟩
          case measure => simp [intOf]; omega
        · have e : u = n := by omega
          subst e
          go_wp2
          go_meet
          case rel => exact ⟨rfl, _, rfl⟩
    case rest =>
      obtain ⟨rfl, q, rfl⟩ := hcut
      clear c10 c50 c1n c5n
      go_wp2
      go_loopw [17] (fun i wr => ∃ u : Nat, u ≤ n ∧ i = .int .i64 u ∧ ∃ q, wH.drewN q = wr) (fun i _ => n - (intOf i).toNat)
      case atStart => exact ⟨0, Nat.zero_le _, rfl, _, rfl⟩
      case round =>
        obtain ⟨u, hu, rfl, q, rfl⟩ := hrel
        by_cases hlt : u < n
        · have d1 := q1.cell u (by omega)
          have d2 := q1.cell (u + 1) (by omega)
          have d3 := q5.cell u (by omega)
          have d4 := q5.cell (u + 1) (by omega)
          rw [tab_get _ _ _ (by omega)] at d1 d2 d3 d4
          have i1 : (0 : Int) ≤ (u : Int) := by omega
          have i2 : (u : Int) < (n : Int) + 1 := by omega
          have i3 : (0 : Int) ≤ (u : Int) + 1 := by omega
          have i4 : (u : Int) + 1 < (n : Int) + 1 := by omega
          have wr1 : IntKind.i64.wrap ((u : Int) + 1) = (u : Int) + 1 := by rw [IntKind.wrap_i64]; omega
          go_wp2
          go_loopw [18, 19, 20, 21] (fun j k c i wr => ∃ t J K C : Nat, t ≤ m ∧ i = .int .i64 t ∧ j = .int .i64 J ∧ k = .int .i64 K ∧ c = .int .i64 C ∧ Hid (J = lo (ku us) u m + cn (ku us) u t ∧ K = lo (ku ts) u m + cn (ku ts) u t ∧ C = cn (ku us) u t) ∧ ∃ q, wH.drewN q = wr) (fun _ _ _ i _ => m - (intOf i).toNat)
          case atStart => exact ⟨0, _, _, 0, Nat.zero_le _, rfl, rfl, rfl, rfl, ⟨rfl, rfl, rfl⟩, _, rfl⟩
          case round =>
            obtain ⟨t, J, K, C, ht, rfl, rfl, rfl, rfl, HE, q, rfl⟩ := hrel
            by_cases htm : t < m
            · obtain ⟨gU, eU, oU, cU1, _⟩ := qU.get t htm
              obtain ⟨gX, eX, oX, cX1, _⟩ := qX.get t htm
              subst eU eX
              have s1 : cn (ku us) u (t + 1) = cn (ku us) u t + (if ku us t = u then 1 else 0) := rfl
              have s2 : cn (ku ts) u (t + 1) = cn (ku ts) u t + (if ku ts t = u then 1 else 0) := rfl
              have hu1 := HU.out t htm
              have ht1 := HT.out t htm
              have bJ := cn_le (ku us) u t
              have bK := cn_le (ku ts) u t
              have bl1 := lo_le (ku us) u m
              have bl2 := lo_le (ku ts) u m
              obtain ⟨hJ, hK, hC⟩ := HE.out
              have zJ : J ≤ 8192 := by omega
              have zK : K ≤ 8192 := by omega
              have zC : C ≤ 4096 := by omega
              have y1 : ku us t = u ↔ us.getD t 0 = (u : Int) := by unfold ku; omega
              have y2 : ku ts t = u ↔ ts.getD t 0 = (u : Int) := by unfold ku; omega
              have pJ : ku us t = u → J < lo (ku us) (u + 1) m ∧ J < m ∧ tos.getD J 0 = ts.getD t 0 := fun e => by
                have h1 := pos_hi (ku us) m t htm
                have h2 := pos_lt (ku us) m t htm
                have h3 := F1.out.2 t htm
                have h4 : pos (ku us) m t = J := by unfold pos; rw [e, hJ]
                rw [h4] at h1 h2 h3
                rw [e] at h1
                exact ⟨h1, h2, h3⟩
              have pK : ku ts t = u → K < lo (ku ts) (u + 1) m ∧ K < m ∧ xs.getD K 0 = us.getD t 0 := fun e => by
                have h1 := pos_hi (ku ts) m t htm
                have h2 := pos_lt (ku ts) m t htm
                have h3 := F2.out.2 t htm
                have h4 : pos (ku ts) m t = K := by unfold pos; rw [e, hK]
                rw [h4] at h1 h2 h3
                rw [e] at h1
                exact ⟨h1, h2, h3⟩
              have HEN := Hid.mk' (And.intro hJ (And.intro hK hC))
              have HS := Hid.mk' (And.intro s1 s2)
              clear hJ hK hC s1 s2 HE hu1 ht1 bJ bK bl1 bl2 F1 F2 HU HT qU qX q1 q5 q3 q4 oU oX
              generalize us.getD t 0 = U at *
              generalize ts.getD t 0 = X at *
              have j1 : (0 : Int) ≤ (t : Int) := by omega
              have j2 : (t : Int) < (m : Int) := by omega
              by_cases hU : U = (u : Int)
              · by_cases hX : X = (u : Int)
                · obtain ⟨hJ1, hJm, hJv⟩ := pJ (y1.2 hU)
                  obtain ⟨gT, eT, oT, cT, _⟩ := q2.get J hJm
                  subst eT
                  rw [hJv] at cT
                  have u1 : (U == (u : Int)) = true := by rw [hU]; simp
                  have j3 : (0 : Int) ≤ (J : Int) := by omega
                  have j4 : (J : Int) < (m : Int) := by omega
                  have j5 : decide (((lo (ku us) (u + 1) m : Nat) : Int) ≤ (J : Int)) = false := decide_eq_false (by omega)
                  obtain ⟨hK1, hKm, hKv⟩ := pK (y2.2 hX)
                  obtain ⟨gW, eW, oW, cW, _⟩ := q6.get K hKm
                  subst eW
                  rw [hKv] at cW
                  have u2 : (X == (u : Int)) = true := by rw [hX]; simp
                  have j6 : (0 : Int) ≤ (K : Int) := by omega
                  have j7 : (K : Int) < (m : Int) := by omega
                  have j8 : decide (((lo (ku ts) (u + 1) m : Nat) : Int) ≤ (K : Int)) = false := decide_eq_false (by omega)
                  have HH : Hid (cn (ku us) u (t + 1) = cn (ku us) u t + 1 ∧ cn (ku ts) u (t + 1) = cn (ku ts) u t + 1) := ⟨by have h := HS.out.1; rw [if_pos (y1.2 hU)] at h; exact h, by have h := HS.out.2; rw [if_pos (y2.2 hX)] at h; exact h⟩
                  clear pJ pK y1 y2 hU hX q2 q6 HS
                  go_wp2
                  go_quiet (fail)
                  go_wp2
                  go_quiet (fail)
                  go_wp2
                  go_roundw
                  case rel => exact ⟨t + 1, J + 1, K + 1, C + 1, by omega, by go_num, by go_num, by go_num, by go_num, ⟨by have := HEN.out; have := HH.out; omega, by have := HEN.out; have := HH.out; omega, by have := HEN.out; have := HH.out; omega⟩, _, rfl⟩
                  case measure => simp [intOf]; omega
                · obtain ⟨hJ1, hJm, hJv⟩ := pJ (y1.2 hU)
                  obtain ⟨gT, eT, oT, cT, _⟩ := q2.get J hJm
                  subst eT
                  rw [hJv] at cT
                  have u1 : (U == (u : Int)) = true := by rw [hU]; simp
                  have j3 : (0 : Int) ≤ (J : Int) := by omega
                  have j4 : (J : Int) < (m : Int) := by omega
                  have j5 : decide (((lo (ku us) (u + 1) m : Nat) : Int) ≤ (J : Int)) = false := decide_eq_false (by omega)
                  have u2 : (X == (u : Int)) = false := by simpa using hX
                  have HH : Hid (cn (ku us) u (t + 1) = cn (ku us) u t + 1 ∧ cn (ku ts) u (t + 1) = cn (ku ts) u t) := ⟨by have h := HS.out.1; rw [if_pos (y1.2 hU)] at h; exact h, by have h := HS.out.2; rw [if_neg (fun h => hX (y2.1 h))] at h; exact h⟩
                  clear pJ pK y1 y2 hU hX q2 q6 HS
                  go_wp2
                  go_quiet (fail)
                  go_wp2
                  go_roundw
                  case rel => exact ⟨t + 1, J + 1, K, C + 1, by omega, by go_num, by go_num, by go_num, by go_num, ⟨by have := HEN.out; have := HH.out; omega, by have := HEN.out; have := HH.out; omega, by have := HEN.out; have := HH.out; omega⟩, _, rfl⟩
                  case measure => simp [intOf]; omega
              · by_cases hX : X = (u : Int)
                · have u1 : (U == (u : Int)) = false := by simpa using hU
                  obtain ⟨hK1, hKm, hKv⟩ := pK (y2.2 hX)
                  obtain ⟨gW, eW, oW, cW, _⟩ := q6.get K hKm
                  subst eW
                  rw [hKv] at cW
                  have u2 : (X == (u : Int)) = true := by rw [hX]; simp
                  have j6 : (0 : Int) ≤ (K : Int) := by omega
                  have j7 : (K : Int) < (m : Int) := by omega
                  have j8 : decide (((lo (ku ts) (u + 1) m : Nat) : Int) ≤ (K : Int)) = false := decide_eq_false (by omega)
                  have HH : Hid (cn (ku us) u (t + 1) = cn (ku us) u t ∧ cn (ku ts) u (t + 1) = cn (ku ts) u t + 1) := ⟨by have h := HS.out.1; rw [if_neg (fun h => hU (y1.1 h))] at h; exact h, by have h := HS.out.2; rw [if_pos (y2.2 hX)] at h; exact h⟩
                  clear pJ pK y1 y2 hU hX q2 q6 HS
                  go_wp2
                  go_quiet (fail)
                  go_wp2
                  go_roundw
                  case rel => exact ⟨t + 1, J, K + 1, C, by omega, by go_num, by go_num, by go_num, by go_num, ⟨by have := HEN.out; have := HH.out; omega, by have := HEN.out; have := HH.out; omega, by have := HEN.out; have := HH.out; omega⟩, _, rfl⟩
                  case measure => simp [intOf]; omega
                · have u1 : (U == (u : Int)) = false := by simpa using hU
                  have u2 : (X == (u : Int)) = false := by simpa using hX
                  have HH : Hid (cn (ku us) u (t + 1) = cn (ku us) u t ∧ cn (ku ts) u (t + 1) = cn (ku ts) u t) := ⟨by have h := HS.out.1; rw [if_neg (fun h => hU (y1.1 h))] at h; exact h, by have h := HS.out.2; rw [if_neg (fun h => hX (y2.1 h))] at h; exact h⟩
                  clear pJ pK y1 y2 hU hX q2 q6 HS
                  go_wp2
                  go_roundw
                  case rel => exact ⟨t + 1, J, K, C, by omega, by go_num, by go_num, by go_num, by go_num, ⟨by have := HEN.out; have := HH.out; omega, by have := HEN.out; have := HH.out; omega, by have := HEN.out; have := HH.out; omega⟩, _, rfl⟩
                  case measure => simp [intOf]; omega
            · have e : t = m := by omega
              subst e
              obtain ⟨g3, e3, o3, c31, _⟩ := q3.get u hlt
              obtain ⟨g4, e4, o4, c41, _⟩ := q4.get u hlt
              subst e3 e4
              rw [tab_get _ _ _ hlt] at c31
              have v4 : (List.replicate n (-1 : Int)).getD u 0 = -1 := by simp [List.getD, hlt]
              rw [v4] at c41
              have v3 : CK (ku us) t u = (C : Int) := by unfold CK; rw [HE.out.2.2]
              rw [v3] at c31
              have v1 : lo (ku us) (u + 1) t = J := by rw [lo_succ, HE.out.1]
              have v2 : lo (ku ts) (u + 1) t = K := by rw [lo_succ, HE.out.2.1]
              rw [v1] at d2
              rw [v2] at d4
              have zJ := lo_le (ku us) (u + 1) t
              have zK := lo_le (ku ts) (u + 1) t
              rw [v1] at zJ
              rw [v2] at zK
              clear v1 v2 v3 v4 HE q1 q2 q3 q4 q5 q6 qU qX HU HT F1 F2
              have i5 : (u : Int) < (n : Int) := by omega
              go_wp2
              go_roundw
              case rel => exact ⟨u + 1, by omega, by go_num, _, rfl⟩
              case measure => simp [intOf]; omega
        · have e : u = n := by omega
          subst e
          go_wp2
          go_ret
          exact ⟨rfl, ⟨FIN.out.os, FIN.out.tape, FIN.out.output, FIN.out.size, FIN.out.block⟩⟩

end Go.Proofs.Qxb6003672a

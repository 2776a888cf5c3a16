import Derived.Test.Qxb6003672aGraphZ
import Derived.Test.Qxb6003672aReqPlain
import Derived.Test.Qxb6003672aFields
import Derived.Deep.RegionHeld3
import Derived.Deep.DeepCutAuto
import Derived.Deep.DrawnRows
import Derived.Deep.CutBlock
namespace Go.Proofs.Qxb6003672a
open Go.RowKit
set_option linter.unusedVariables false
attribute [local go_sem ↓] Go.wp_at_zero Go.wp_at_succ

theorem cell_far {w : World} {p q : Addr} (u : Value) (h : q.block ≠ p.block) : (w.setCell p u).cell? q = w.cell? q := World.cell?_of_block (Below.heap_setCell _ _ _ _ h)
theorem Hid.mk' {p : Prop} (h : p) : Hid p := h
theorem IsRow.get {k : IntKind} {w : World} {a : Option Addr} {len cap : Nat} {zs : List Int} (h : IsRow k w a len cap zs) : ∀ i, i < len → ∃ x, a = some x ∧ w.cell? (x.add i) = some (.int k ((zs.take len).getD i 0)) := by
  intro i hi
  rcases h with ⟨_, rfl, _⟩ | ⟨x, rfl, hl, _, hz, hc, _⟩
  · omega
  · refine ⟨x, rfl, ?_⟩
    rw [hc i (by omega)]
    simp [List.getD, hi]
theorem IsRow.fr {F : Nat → Prop} {k : IntKind} {w w' : World} {a : Option Addr} {len cap : Nat} {zs : List Int} (h : IsRow k w a len cap zs) (hf : Fr F w w') (hF : ∀ k, k < w.heap.size → F k) : IsRow k w' a len cap zs := by
  rcases h with h | ⟨x, rfl, hl, hm, hz, hc, hw⟩
  · exact .inl h
  · refine .inr ⟨x, rfl, hl, hm, hz, fun i hi => ?_, hw⟩
    have := hc i hi
    exact (hf.cell (p := x.add i) (hF _ (World.block_lt_of_cell? _ _ this))).trans this
theorem Row.formS {w : World} {v : Value} {n : Nat} {zs : List Int} (h : Row w v n zs) : ∃ a c, v = .slice a n c := by
  rcases h.2 with ⟨rfl, rfl⟩ | ⟨g, cap, cur, rfl, _⟩
  · exact ⟨_, _, rfl⟩
  · exact ⟨_, _, rfl⟩
theorem Row.get {w : World} {a : Option Addr} {c n : Nat} {zs : List Int} (h : Row w (.slice a n c) n zs) : ∀ i, i < n → ∃ g, a = some ⟨g, 0, none⟩ ∧ (Value.slice a n c).ownBlock = some g ∧ w.cell? ⟨g, i, none⟩ = some (.int .i64 (zs.getD i 0)) ∧ w.frozen? ⟨g, i, none⟩ = false := by
  intro i hi
  obtain ⟨g, cap, e⟩ := h.form (by omega)
  simp at e
  obtain ⟨rfl, rfl⟩ := e
  exact ⟨g, rfl, rfl, h.cell i hi, h.frozen i⟩

section
variable {F G : Nat → Prop} {w w' : World} {b n : Nat} {need up : List Int} {ws : List (Int × Int × Int)}
/-- new blocks count for nothing -/
theorem BS.frN (h : BS F w b n need up ws) (hf : Fr (· < w.heap.size) w w') : BS F w' b n need up ws := by
  obtain ⟨vn, vu, vw, h⟩ := h
  exact ⟨vn, vu, vw, h.blk.keep (hf.block b h.blk.lt), h.rn.fr hf (fun k e => own_lt h.rn e), h.ru.fr hf (fun k e => own_lt h.ru e), wts_keep h.rw (fun k e => hf.block k (own_lt h.rw e)), h.fb, h.fn, h.fu, h.fw⟩
theorem BS.drew (h : BS F w b n need up ws) : BS F w.drew b n need up ws := h.frN (Fr.refl _ _).drew
/-- more blocks that are none of the builder's: those that were not there -/
theorem BS.more (h : BS F w b n need up ws) (hG : ∀ k, G k → F k ∨ w.heap.size ≤ k) : BS G w b n need up ws := by
  obtain ⟨vn, vu, vw, h⟩ := h
  have hb := h.blk.lt
  refine ⟨vn, vu, vw, h.blk, h.rn, h.ru, h.rw, ?_, ?_, ?_, ?_⟩
  · intro e; rcases hG _ e with f | f
    · exact h.fb f
    · omega
  · intro g e
    refine ⟨fun e' => ?_, (h.fn g e).2⟩
    rcases hG _ e' with f | f
    · exact (h.fn g e).1 f
    · have := own_lt h.rn e; omega
  · intro g e e'
    rcases hG _ e' with f | f
    · exact h.fu g e f
    · have := own_lt h.ru e; omega
  · intro g e e'
    rcases hG _ e' with f | f
    · exact h.fw g e f
    · have := own_lt h.rw e; omega
/-- a store into a block that is none of the builder's -/
theorem BS.setOut (h : BS F w b n need up ws) {p : Addr} (hp : F p.block) (u : Value) : BS F (w.setCell p u) b n need up ws := by
  obtain ⟨vn, vu, vw, h⟩ := h
  have k : ∀ g, ¬ F g → (w.setCell p u).heap[g]? = w.heap[g]? := fun g hg => Below.heap_setCell _ _ _ _ (fun e => hg (e ▸ hp))
  exact ⟨vn, vu, vw, h.blk.keep (k b h.fb), h.rn.keep (fun g e => k g (h.fn g e).1), h.ru.keep (fun g e => k g (h.fu g e)), wts_keep h.rw (fun g e => k g (h.fw g e)), h.fb, h.fn, h.fu, h.fw⟩
end

/-- Requirement, at either kind of place -/
theorem req_any (F : Nat → Prop) (b n k : Nat) (u : Nat → Nat) (x : Nat → Int) (U X : Int) (w : World) (hU : U = (u k : Nat)) (hX : X = x k) (hF : ∀ k, F k → k < w.heap.size) (h : BS F w b n (tab (n + k) (NK u x n k)) (tab (n + k) (UK u n)) [])
    (hn : n ≤ 1024) (hk : k ≤ 4096) :
    Calls Try.prog 27 #[.pointer (some ⟨b, 0, none⟩), .int .i64 U, .int .i64 X] w fun e w' => e = .returned (.int .i64 ((n + k : Nat) : Int)) ∧ BS F w' b n (tab (n + (k + 1)) (NK u x n (k + 1))) (tab (n + (k + 1)) (UK u n)) [] ∧ Fr F w w' := by
  subst hU hX
  have hl := tab_len (n + k) (NK u x n k)
  have hl2 := tab_len (n + k) (UK u n)
  by_cases hu : u k < n
  · have hb := NK_bd u x n k hu
    refine (req_lt F b n _ _ [] (u k) (x k) w hF h hu (by omega) (by omega) (by omega) ⟨hb.1, by omega⟩).mono ?_
    rintro e w' ⟨rfl, h1, h2⟩
    rw [NK_succ_lt u x n k hu, UK_succ] at h1
    exact ⟨by rw [hl], h1, h2⟩
  · refine (req_ge F b n _ _ [] (u k) (x k) w hF h (by omega) (by omega) (by omega)).mono ?_
    rintro e w' ⟨rfl, h1, h2⟩
    rw [NK_succ_ge u x n k (by omega), UK_succ] at h1
    exact ⟨by rw [hl], h1, h2⟩

theorem graph6 {F : Nat → Prop} {b n m : Nat} {us xs : List Int} {w : World} (h : BS F w b n (tab (n + m) (NK (fun i => (us.getD i 0).toNat) (fun i => xs.getD i 0) n m)) (tab (n + m) (UK (fun i => (us.getD i 0).toNat) n)) [])
    (hF : ∀ k, F k → k < w.heap.size) (hn : n ≤ 1024) (hm : m ≤ 4096) (hu : ∀ j, j < m → 0 ≤ us.getD j 0 ∧ us.getD j 0 < n + j) :
    Calls Try.prog 13 #[.pointer (some ⟨b, 0, none⟩)] w fun e w' => GOut F w n (tab (n + m) (NK (fun i => (us.getD i 0).toNat) (fun i => xs.getD i 0) n m)) (tab (n + m) (UK (fun i => (us.getD i 0).toNat) n)) [] e w' := by
  by_cases h0 : n = 0
  · subst h0
    have hm0 : m = 0 := by
      rcases Nat.eq_zero_or_pos m with e | e
      · exact e
      · have := hu 0 e; omega
    subst hm0
    exact graph_zero F b w hF h
  · exact graph_pos F b n _ _ [] w hF h (by omega) (by omega) (by rw [tab_len]; omega) (by rw [tab_len]; omega) (by simp) (by simp)

set_option maxRecDepth 100000 in
set_option maxHeartbeats 4000000 in
theorem law6 (a0 : Option Addr) (m cap0 : Nat) (z0 : List Int) (a1 : Option Addr) (cap1 : Nat) (z1 : List Int) (n : Nat) (w : World) (w0 : IsRow .i64 w a0 m cap0 z0) (w1 : IsRow .i64 w a1 m cap1 z1) (hm : m ≤ 4096) (hn : n ≤ 1024) :
    Calls Try.prog 6 #[.int .i64 n, .slice a0 m cap0, .slice a1 m cap1] w fun e w' => e = .returned (.bool true) ∧ Below w.heap.size w w' := by
  have g0 := w0.get
  go_enter Try.func6, Try.ntmps6
  go_wp2_with fail
  refine (bytes26 _ _ _ _ _ _ _ _ (by omega) (by omega)).mono ?_
  rintro e w' ⟨⟨bb, rfl⟩, rfl⟩
  cases bb
  · go_wp2
    go_ret
    exact ⟨rfl, Below.refl _ _⟩
  go_upto_block 0 with fail
  go_cut [1] (fun s1 wc => s1 = .slice a0 m cap0 ∧ w = wc ∧ ∀ j, j < m → 0 ≤ (z0.take m).getD j 0 ∧ (z0.take m).getD j 0 < n + j)
  case first =>
    go_wp2
    go_loop [7] (fun i => ∃ k : Nat, k ≤ m ∧ i = .int .i64 k ∧ ∀ j, j < k → 0 ≤ (z0.take m).getD j 0 ∧ (z0.take m).getD j 0 < n + j) (fun i => m - (intOf i).toNat)
    case atStart => exact ⟨0, Nat.zero_le _, rfl, fun j hj => by omega⟩
    case round =>
      obtain ⟨k, hk, rfl, hj⟩ := hrel
      have HJ := Hid.mk' hj
      clear hj
      by_cases hlt : k < m
      · obtain ⟨x, rfl, hc⟩ := g0 k hlt
        clear g0
        generalize hz : (z0.take m).getD k 0 = z at *
        have HZ := Hid.mk' hz
        clear hz
        by_cases c1 : z < 0
        · go_wp2
          go_ret
          exact ⟨rfl, Below.refl _ _⟩
        by_cases c2 : (n : Int) + k ≤ z
        · go_wp2
          go_ret
          exact ⟨rfl, Below.refl _ _⟩
        go_wp2
        go_round
        case rel =>
          refine ⟨k + 1, by omega, by go_num, fun j hj => ?_⟩
          by_cases e : j = k
          · subst e; rw [HZ.out]; omega
          · exact HJ.out j (by omega)
        case measure => simp [intOf]; omega
      · have e : k = m := by omega
        subst e
        go_wp2
        go_meet
        case rel => exact ⟨rfl, rfl, HJ.out⟩
  case rest =>
    obtain ⟨rfl, rfl, hu⟩ := hcut
    have HU := Hid.mk' hu
    clear hu g0
    go_wp2_with fail
    refine (clone_any w0 (by omega)).mono ?_
    rintro e wA ⟨vU, rfl, rU, fA, atU⟩
    obtain ⟨aU, cU, eU⟩ := rU.formS
    subst eU
    have w1A := w1.fr fA (fun _ h => h)
    clear w1
    go_wp2_with fail
    refine (clone_any w1A (by omega)).mono ?_
    rintro e wB ⟨vX, rfl, rX, fB, atX⟩
    obtain ⟨aX, cX, eX⟩ := rX.formS
    subst eX
    have rU2 := rU.frN fB
    have fAB : Fr (· < w.heap.size) w wB := fA.trans (fB.mono (fun k h => Nat.lt_of_lt_of_le h fA.size))
    clear rU w1A fA fB w0 atU atX
    go_wp2_with fail
    refine (new_any n _ (by omega)).mono ?_
    rintro e wC ⟨b, rfl, hBS, fC⟩
    have fBC := fC
    obtain ⟨i0, hi, hz0, hz1, hz2⟩ := info_parts Try.info3
    go_wp2_with (at_make; refine wpList_make_full _ rfl _ _ 22 rfl 0 3 i0 (.int .i64 0) 1 Try.underlying22 hi hz0 hz1 _ _ _ _ m rfl rfl rfl rfl (by rw [hz2]; omega) (by unfold maxLen; omega) (Nat.zero_le _) ?_)
    intro wD hown hg
    simp only [made_zero] at hown
    have rG : Row wD (.slice (some ⟨wC.heap.size, 0, none⟩) m m) m (tab m (GK n 0)) := by rw [← GK_zero]; exact hown
    have fD : Fr (· < wC.heap.size) wC wD := (Fr.refl _ _).grown hg (fun _ h => h) (by simp)
    clear hown hg
    generalize hG : wC.heap.size = G at *
    have hBG : wB.heap.size ≤ G := by have := fBC.size; omega
    have hBS2 : BS (fun k => k < wB.heap.size ∨ k = G) wD b n (tab (n + 0) (NK (fun i => ((z0.take m).getD i 0).toNat) (fun i => (z1.take m).getD i 0) n 0)) (tab (n + 0) (UK (fun i => ((z0.take m).getD i 0).toNat) n)) [] := by
      rw [← NK_zero, ← UK_zero]
      refine BS.frN (BS.more hBS (fun k h => ?_)) (by rw [hG]; exact fD)
      rcases h with h | h
      · exact .inl h
      · exact .inr (by omega)
    have fBD : Fr (· < wB.heap.size) wB wD := fBC.trans (fD.mono (fun k h => by omega))
    clear hBS fC fBC
    have hGD := rG.lt
    go_upto_block 2 with fail
    generalize hus : (z0.take m) = us at *
    generalize hxs : (z1.take m) = xs at *
    clear hus hxs
    have hG2 : wB.heap.size ≤ G := hBG
    go_cut [9] (fun s9 wE => s9 = .pointer (some ⟨b, 0, none⟩) ∧ BS (fun k => k < wB.heap.size ∨ k = G) wE b n (tab (n + m) (NK (fun i => (us.getD i 0).toNat) (fun i => xs.getD i 0) n m)) (tab (n + m) (UK (fun i => (us.getD i 0).toNat) n)) [] ∧
      Row wE (.slice (some ⟨G, 0, none⟩) m m) m (tab m (GK n m)) ∧ Fr (· < wB.heap.size) wB wE ∧ G < wE.heap.size)
    case first =>
      go_wp2
      go_loopw [11] (fun i wr => ∃ k : Nat, k ≤ m ∧ i = .int .i64 k ∧ BS (fun k => k < wB.heap.size ∨ k = G) wr b n (tab (n + k) (NK (fun i => (us.getD i 0).toNat) (fun i => xs.getD i 0) n k)) (tab (n + k) (UK (fun i => (us.getD i 0).toNat) n)) [] ∧
        Row wr (.slice (some ⟨G, 0, none⟩) m m) m (tab m (GK n k)) ∧ Fr (· < wB.heap.size) wB wr ∧ G < wr.heap.size) (fun i _ => m - (intOf i).toNat)
      case atStart => exact ⟨0, Nat.zero_le _, rfl, hBS2, rG, fBD, hGD⟩
      case round =>
        clear hBS2 rG fBD hGD fD fAB
        obtain ⟨k, hk, rfl, B, R, f, hg⟩ := hrel
        by_cases hlt : k < m
        · obtain ⟨gU, eU, oU, cU1, _⟩ := rU2.get k hlt
          obtain ⟨gX, eX, oX, cX1, _⟩ := rX.get k hlt
          subst eU eX
          have lU := own_lt rU2 oU
          have lX := own_lt rX oX
          have hu0 := HU.out k hlt
          have dU : wr.cell? ⟨gU, k, none⟩ = some (.int .i64 (us.getD k 0)) := (f.cell (p := ⟨gU, k, none⟩) lU).trans cU1
          have dX : wr.cell? ⟨gX, k, none⟩ = some (.int .i64 (xs.getD k 0)) := (f.cell (p := ⟨gX, k, none⟩) lX).trans cX1
          have eU : us.getD k 0 = (((us.getD k 0).toNat : Nat) : Int) := by omega
          have hG := R.cell k hlt
          have hGf := R.frozen k
          have i1 : (0 : Int) ≤ (k : Int) := by omega
          have i2 : (k : Int) < (m : Int) := by omega
          have n1 : gU ≠ G := by omega
          have n2 : gX ≠ G := by omega
          have HB := Hid.mk' B
          have HR := Hid.mk' R
          have HF := Hid.mk' f
          have HE := Hid.mk' eU
          have HF2 : Hid (∀ k, (k < wB.heap.size ∨ k = G) → k < wr.heap.size) := fun k h => by have := f.size; omega
          clear B R f eU HU rU2 rX cU1 cX1 oU oX hu0
          generalize hU' : us.getD k 0 = U at *
          generalize hX' : xs.getD k 0 = X at *
          generalize (tab m (GK n k)).getD k 0 = q at *
          have HE2 : Hid (U = (((us.getD k 0).toNat : Nat) : Int)) := by rw [hU']; exact HE.out
          have HU' := Hid.mk' hU'
          have HX' := Hid.mk' hX'
          clear hU' hX'
          go_wp2
          go_region_held3 (fun w' => w'.cell? ⟨gU, k, none⟩ = some (.int .i64 U) ∧ w'.cell? ⟨gX, k, none⟩ = some (.int .i64 X)) ((refine And.intro ?_ ?_; (first | exact dU | exact (hfA.cell (p := ⟨gU, k, none⟩) (.inl lU)).trans dU | exact (cell_far (p := ⟨G, k, none⟩) (q := ⟨gU, k, none⟩) _ n1).trans ((hfA.cell (p := ⟨gU, k, none⟩) (.inl lU)).trans dU)); (first | exact dX | exact (hfA.cell (p := ⟨gX, k, none⟩) (.inl lX)).trans dX | exact (cell_far (p := ⟨G, k, none⟩) (q := ⟨gX, k, none⟩) _ n2).trans ((hfA.cell (p := ⟨gX, k, none⟩) (.inl lX)).trans dX)))) (first | (go_at_call 27; refine (req_any (fun k => k < wB.heap.size ∨ k = G) b n k (fun i => (us.getD i 0).toNat) (fun i => xs.getD i 0) U X wr.drew HE2.out HX'.out.symm HF2.out HB.out.drew hn (by omega)).mono ?_; rintro e wA ⟨rfl, hBA, hfA⟩; have hq1 := (hfA.cell (p := ⟨G, k, none⟩) (.inr rfl)).trans hG; have hq2 := (hfA.frozen (p := ⟨G, k, none⟩) (.inr rfl)).trans hGf))
          go_wp2
          go_roundw
          case rel =>
            have hR2 := (HR.out.drew.fr hfA (fun g e => by simp [Value.ownBlock] at e; exact .inr e.symm)).set k ((n + k : Nat) : Int)
            rw [GK_succ] at hR2
            refine ⟨k + 1, by omega, by go_num, hBA.setOut (p := ⟨G, k, none⟩) (.inr rfl) _, hR2, ?_, ?_⟩
            · exact ((HF.out.drew.trans (hfA.mono (fun k h => .inl h))).setCell (p := ⟨G, k, none⟩) (by simp; omega) _)
            · have := hfA.size; simp at this ⊢; omega
          case measure => simp [intOf]; omega
        · have e : k = m := by omega
          subst e
          go_wp2
          go_meet
          case rel => exact ⟨rfl, B, R, f, hg⟩
    case rest =>
      obtain ⟨rfl, B, R, f, hg⟩ := hcut
      clear hBS2 rG fBD hGD fD
      go_wp2_with fail
      refine Calls.mono (graph6 B (by have := f.size; omega) hn hm HU.out) ?_
      rintro e wF hO
      obtain ⟨a1, c1, a2, c2, a3, c3, a4, c4, a5, c5, a6, c6, tos, xs', rfl, r1, r2, r3, r4, r5, r6, _, _, fF⟩ := hO
      rw [tab_len] at r3 r4
      simp only [tab_len, List.length_nil]
      have rG2 := R.fr fF (fun g e => by simp [Value.ownBlock] at e; exact .inr e.symm)
      have rU3 := (rU2.fr f (fun g e => own_lt rU2 e)).fr fF (fun g e => .inl (own_lt rU2 e))
      have rX3 := (rX.fr f (fun g e => own_lt rX e)).fr fF (fun g e => .inl (own_lt rX e))
      have fW : Fr (· < w.heap.size) w wF := (fAB.trans (f.mono (fun k h => by have := fAB.size; omega))).trans (fF.mono (fun k h => .inl (by have := fAB.size; omega)))
      clear B R f fF fAB r1 r2 r5 r6 rU2 rX
      go_wp2_with fail
      refine (fields_any _ _ _ _ _ _ _ _ _ _ _ _ _ _ _ _ _ _ _).mono ?_
      rintro e wH ⟨rfl, fH⟩
      have qG := rG2.frN fH
      have qU := rU3.frN fH
      have qX := rX3.frN fH
      have q3 := r3.frN fH
      have q4 := r4.frN fH
      have fW2 : Fr (· < w.heap.size) w wH := fW.trans (fH.mono (fun k h => by have := fW.size; omega))
      have FIN : Hid (Below w.heap.size w wH) := fW2.below
      clear rG2 rU3 rX3 r3 r4 fW fH fW2
      go_upto_block 4 with fail
      go_cut [8] (fun s8 wI => s8 = .int .i64 m ∧ ∃ q, wH.drewN q = wI)
      case first =>
        go_wp2
        go_loopw [18] (fun i wr => ∃ k : Nat, k ≤ m ∧ i = .int .i64 k ∧ ∃ q, wH.drewN q = wr) (fun i _ => m - (intOf i).toNat)
        case atStart => exact ⟨0, Nat.zero_le _, rfl, 0, rfl⟩
        case round =>
          obtain ⟨k, hk, rfl, q, rfl⟩ := hrel
          by_cases hlt : k < m
          · obtain ⟨gU, eU, oU, cU1, _⟩ := qU.get k hlt
            obtain ⟨gX, eX, oX, cX1, _⟩ := qX.get k hlt
            obtain ⟨g3, e3, o3, c31, _⟩ := q3.get (n + k) (by omega)
            obtain ⟨g4, e4, o4, c41, _⟩ := q4.get (n + k) (by omega)
            have cG1 := qG.cell k hlt
            subst eU eX e3 e4
            have hu0 := HU.out k hlt
            have v3 : (tab (n + m) (NK (fun i => (us.getD i 0).toNat) (fun i => xs.getD i 0) n m)).getD (n + k) 0 = xs.getD k 0 := by
              rw [tab_get _ _ _ (by omega)]; unfold NK; rw [if_neg (by omega), Nat.add_sub_cancel_left]
            have v4 : (tab (n + m) (UK (fun i => (us.getD i 0).toNat) n)).getD (n + k) 0 = us.getD k 0 := by
              rw [tab_get _ _ _ (by omega)]; unfold UK; rw [if_neg (by omega), Nat.add_sub_cancel_left]; show (((us.getD k 0).toNat : Nat) : Int) = _; omega
            have vG : (tab m (GK n m)).getD k 0 = (n : Int) + k := by
              rw [tab_get _ _ _ (by omega)]; unfold GK; rw [if_pos hlt]
            rw [v3] at c31
            rw [v4] at c41
            rw [vG] at cG1
            clear v3 v4 vG hu0 qG qU qX q3 q4 HU FIN
            generalize us.getD k 0 = U at *
            generalize xs.getD k 0 = X at *
            have i1 : (0 : Int) ≤ (k : Int) := by omega
            have i2 : (k : Int) < (m : Int) := by omega
            have i3 : (0 : Int) ≤ (n : Int) + (k : Int) := by omega
            have i4 : (n : Int) + (k : Int) < (n : Int) + (m : Int) := by omega
            have i5 : (n : Int) + (k : Int) < ((n + m : Nat) : Int) := by omega
            have i6 : ((n : Int) + (k : Int)).toNat = n + k := by omega
            have wr1 : IntKind.i64.wrap ((n : Int) + (k : Int)) = (n : Int) + (k : Int) := by rw [IntKind.wrap_i64]; omega
            go_wp2
            go_quiet (fail)
            go_wp2
            go_roundw
            case rel => exact ⟨k + 1, by omega, by go_num, _, rfl⟩
            case measure => simp [intOf]; omega
          · have e : k = m := by omega
            subst e
            go_wp2
            go_meet
            case rel => exact ⟨rfl, _, rfl⟩
      case rest =>
        obtain ⟨rfl, q, rfl⟩ := hcut
        have FIN2 : Hid (Below w.heap.size w (wH.drewN q)) := ⟨FIN.out.os, FIN.out.tape, FIN.out.output, FIN.out.size, FIN.out.block⟩
        clear FIN qG qX
        go_wp2
        go_loop [19] (fun i => ∃ u : Nat, u ≤ n ∧ i = .int .i64 u) (fun i => n - (intOf i).toNat)
        case atStart => exact ⟨0, Nat.zero_le _, rfl⟩
        case round =>
          obtain ⟨u, hu, rfl⟩ := hrel
          by_cases hlt : u < n
          · go_wp2
            go_loop [20, 21] (fun c i => ∃ k : Nat, k ≤ m ∧ i = .int .i64 k ∧ c = .int .i64 (cn (fun i => (us.getD i 0).toNat) u k : Nat)) (fun _ i => m - (intOf i).toNat)
            case atStart => exact ⟨0, Nat.zero_le _, rfl, rfl⟩
            case round =>
              obtain ⟨k, hk, rfl, rfl⟩ := hrel
              have hb := cn_le (fun i => (us.getD i 0).toNat) u k
              by_cases hkm : k < m
              · obtain ⟨gU, eU, oU, cU1, _⟩ := qU.get k hkm
                have hu0 := HU.out k hkm
                have hs : cn (fun i => (us.getD i 0).toNat) u (k + 1) = cn (fun i => (us.getD i 0).toNat) u k + (if (us.getD k 0).toNat = u then 1 else 0) := rfl
                have HS := Hid.mk' hs
                have HU0 := Hid.mk' hu0
                subst eU
                clear hs hu0 q3 q4 qU oU
                generalize cn (fun i => (us.getD i 0).toNat) u k = c at *
                generalize us.getD k 0 = U at *
                by_cases hU : U = (u : Int)
                · have hU2 : (U == (u : Int)) = true := by rw [hU]; simp
                  have HUU := Hid.mk' hU
                  clear hU
                  go_wp2
                  go_round
                  case rel => exact ⟨k + 1, by omega, by go_num, by rw [HS.out, if_pos (by rw [HUU.out]; simp)]; go_num⟩
                  case measure => simp [intOf]; omega
                · have hU2 : (U == (u : Int)) = false := by simpa using hU
                  have HUU := Hid.mk' hU
                  clear hU
                  go_wp2
                  go_round
                  case rel => exact ⟨k + 1, by omega, by go_num, by rw [HS.out, if_neg (by have h1 := HUU.out; have h2 := HU0.out; omega)]; go_num⟩
                  case measure => simp [intOf]; omega
              · have e : k = m := by omega
                subst e
                obtain ⟨g3, e3, o3, c31, _⟩ := q3.get u (by omega)
                obtain ⟨g4, e4, o4, c41, _⟩ := q4.get u (by omega)
                subst e3 e4
                rw [tab_get _ _ _ (by omega)] at c31 c41
                have v3 : NK (fun i => (us.getD i 0).toNat) (fun i => xs.getD i 0) n k u = (cn (fun i => (us.getD i 0).toNat) u k : Nat) := by unfold NK; rw [if_pos hlt]
                have v4 : UK (fun i => (us.getD i 0).toNat) n u = -1 := by unfold UK; rw [if_pos hlt]
                rw [v3] at c31
                rw [v4] at c41
                clear v3 v4 q3 q4 qU HU
                generalize cn (fun i => (us.getD i 0).toNat) u k = c at *
                have i5 : (u : Int) < ((n + k : Nat) : Int) := by omega
                go_wp2
                go_round
                case rel => exact ⟨u + 1, by omega, by go_num⟩
                case measure => simp [intOf]; omega
          · have e : u = n := by omega
            subst e
            go_wp2
            go_ret
            exact ⟨rfl, FIN2.out⟩

end Go.Proofs.Qxb6003672a

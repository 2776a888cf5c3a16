import Derived.Test.Qxb6003682aEdLaw
import Derived.Test.Qxb6003682aEig2
import Derived.Laws.Externs
import Derived.Laws.FloatArith
import Derived.Deep.RegionHeld3
namespace Go.Proofs.Qxb6003682a
open Go.RowKit
set_option linter.unusedVariables false
attribute [local go_sem] run_store_float

theorem lt20 {T : Nat} (h : T ≤ 4096) : T < 2 ^ 20 := Nat.lt_of_le_of_lt h (by decide)
theorem le12 {T : Nat} (h : T ≤ 4096) : T ≤ 2 ^ 12 := h
/-- it returns a float that is small -/
def SmB (B : Nat) (e : Ending) : Prop := ∃ y, e = .returned (.float .f64 y) ∧ IsS y B

theorem abs_any (x B : Nat) (h : IsS x B) (w : World) : Calls Try.prog 16 #[.float .f64 x] w fun e w' => SmB B e ∧ w = w' := by
  have h2 := h.neg
  have H := Hid.mk (And.intro h h2)
  have hn : ∀ w : World, (Op.unary UnOp.neg (Value.float FloatKind.f64 x)).run Try.prog w = .ok (.float .f64 (x ^^^ 2 ^ 63)) w := fun w => rfl
  clear h h2
  cases ho : FloatKind.f64.format.order x 0 with
  | none =>
    go_enter Try.func16, Try.ntmps16
    go_wp2
    go_ret
    exact ⟨⟨_, rfl, H.out.1⟩, rfl⟩
  | some o =>
    cases o
    · go_enter Try.func16, Try.ntmps16
      go_wp2
      go_ret
      exact ⟨⟨_, rfl, H.out.2⟩, rfl⟩
    · go_enter Try.func16, Try.ntmps16
      go_wp2
      go_ret
      exact ⟨⟨_, rfl, H.out.1⟩, rfl⟩
    · go_enter Try.func16, Try.ntmps16
      go_wp2
      go_ret
      exact ⟨⟨_, rfl, H.out.1⟩, rfl⟩

theorem sqrt_run {x r : Nat} (h : Ieee.double.sqrt x = some r) (w : World) : (callFunc 29 #[.float .f64 x]).run Try.prog w = .ok (.value (.float .f64 r)) w := by
  have h' : FloatKind.f64.format.sqrt x = some r := h
  rw [run_callFunc_extern (fn := Try.f29) (e := Extern.MathSqrt.sqrt) Try.func29 (by kernel_rfl) (by kernel_rfl) (by kernel_rfl) (by kernel_rfl)]
  change (Sem.run Try.prog (match FloatKind.f64.format.sqrt x with | some r => (pure (.float .f64 r) : Sem Value) | none => do pure (.float .f64 (← choose (.nanBits .f64 x x)))) w).andThen _ = _
  rw [h']
  rfl

theorem sqrt_any {x r : Nat} (h : Ieee.double.sqrt x = some r) (w : World) : Calls Try.prog 27 #[.float .f64 x] w fun e w' => e = .returned (.float .f64 r) ∧ w = w' := by
  have hq := fun w => sqrt_run h w
  clear h
  go_enter Try.func27, Try.ntmps27
  go_wp2
  go_ret
  exact ⟨rfl, rfl⟩

theorem deg_any (b : Nat) (L : Nat → Nat → Bool) (n : Nat) (Z : Nat → Int) (aI : Option Addr) (cI gO gA cA i : Nat) (w : World) (hn : n ≤ 64) (H : Gr w b L n Z aI cI gO gA cA) (hi : i < n) :
    Calls Try.prog 28 #[.pointer (some ⟨b, 0, none⟩), .int .i64 i] w fun e w' => e = .returned (.int .i64 ((rowL L i n).length : Int)) ∧ ∃ q, w.drewN q = w' := by
  have d1 := H.c1
  have o0 := H.off i (by omega)
  have o1 := H.off (i + 1) (by omega)
  have hO1 : (adjL L n (i + 1)).length = (adjL L n i).length + (rowL L i n).length := by rw [adjL, List.length_append]
  have hb := adjL_le L n i (by omega) hn
  have hb2 := rowL_len L i n
  rw [hO1] at o1
  clear H hO1
  generalize (adjL L n i).length = lo at *
  generalize (rowL L i n).length = R at *
  have f1 : ∀ m, (w.drewN m).cell? ⟨b, 1, none⟩ = some (.slice (some ⟨gO, 0, none⟩) (n + 1) (n + 1)) := fun m => by rw [World.cell?_drewN]; exact d1
  have f3 : ∀ m, (w.drewN m).cell? ⟨gO, i, none⟩ = some (.int .i64 lo) := fun m => by rw [World.cell?_drewN]; exact o0
  have f4 : ∀ m, (w.drewN m).cell? ⟨gO, i + 1, none⟩ = some (.int .i64 ((lo + R : Nat) : Int)) := fun m => by rw [World.cell?_drewN]; exact o1
  have wk : IntKind.i64.wrap ((i : Int) + 1) = ((i + 1 : Nat) : Int) := by rw [IntKind.wrap_i64]; omega
  have k1 : ((i + 1 : Nat) : Int) < ((n + 1 : Nat) : Int) := by omega
  have k2 : (i : Int) < ((n + 1 : Nat) : Int) := by omega
  clear d1 o0 o1
  go_enter Try.func28, Try.ntmps28
  go_wp2
  go_quiet (fail)
  go_wp2
  go_ret
  exact ⟨by simp; omega, nq, rfl⟩

theorem Try.info41 : (Try.prog.info? 41).map (fun i => (i.zero, i.size, i.bytes)) = some (some (.float .f64 0), 1, 8) := by kernel_rfl

/-- the operator's five fields -/
structure Wop (w : World) (p : Nat) (gW gT : Nat) (n : Nat) : Prop where
  c2 : w.cell? ⟨p, 2, none⟩ = some (.slice (some ⟨gW, 0, none⟩) n n)
  c3 : w.cell? ⟨p, 3, none⟩ = some (.slice (some ⟨gT, 0, none⟩) n n)

/-- the graph's fields that are read -/
structure GC (w : World) (b gO n gA T cA : Nat) : Prop where
  c1 : w.cell? ⟨b, 1, none⟩ = some (.slice (some ⟨gO, 0, none⟩) (n + 1) (n + 1))
  c2 : w.cell? ⟨b, 2, none⟩ = some (.slice (some ⟨gA, 0, none⟩) T cA)
theorem GC.alloc {w : World} {b gO n gA T cA : Nat} (o : Obj) (h : GC w b gO n gA T cA) : GC (w.alloc o) b gO n gA T cA := ⟨Lib.cell?_alloc_some _ h.c1, Lib.cell?_alloc_some _ h.c2⟩
theorem GC.drew {w : World} {b gO n gA T cA : Nat} (h : GC w b gO n gA T cA) : GC w.drew b gO n gA T cA := ⟨h.c1, h.c2⟩
theorem GC.flds {w : World} {b gO n gA T cA : Nat} (h : GC w b gO n gA T cA) : w.cell? ⟨b, 1, none⟩ = some (.slice (some ⟨gO, 0, none⟩) (n + 1) (n + 1)) ∧ w.cell? ⟨b, 2, none⟩ = some (.slice (some ⟨gA, 0, none⟩) T cA) ∧ GC w b gO n gA T cA := ⟨h.c1, h.c2, h⟩

/-- what lies behind the operator's making -/
def WRel (w : World) (n : Nat) (s : Value) (wc : World) : Prop :=
  ∃ p gW gT : Nat, s = .pointer (some ⟨p, 0, none⟩) ∧ Wop wc p gW gT n ∧ Own wc 41 (some ⟨gW, 0, none⟩) n n (fun _ => .float .f64 0) ∧ Own wc 41 (some ⟨gT, 0, none⟩) n n (fun _ => .float .f64 0) ∧ gW ≠ gT ∧ w.heap.size ≤ gW ∧ w.heap.size ≤ gT ∧ p ≠ gW ∧ p ≠ gT ∧ Fr (· < w.heap.size) w wc
theorem row_new (w : World) (n : Nat) (hn : n ≤ 64) : Own (w.alloc (.cells (madeCells #[.float .f64 0] n) 41)) 41 (some ⟨w.heap.size, 0, none⟩) n n (fun _ => .float .f64 0) := by
  apply made_own
  exact World.ownsRow_lit w (madeCells #[.float .f64 0] n) n (Nat.zero_le _) (by unfold maxLen; omega) (by simp [madeCells])
theorem Own.alloc {w : World} {e : TypeId} {a : Option Addr} {len cap : Nat} {V : Nat → Value} (h : Own w e a len cap V) (o : Obj) : Own (w.alloc o) e a len cap V := h.frN ((Fr.refl _ w).alloc (fun _ e => e) o)
theorem row_any (w : World) (n : Nat) (hn : n ≤ 64) (o : Obj) (g : Nat) (h1 : w.heap.size ≤ g) (h2 : g < w.heap.size + 3) :
    Own ((((w.alloc (.cells (madeCells #[.float .f64 0] n) 41)).alloc (.cells (madeCells #[.float .f64 0] n) 41)).alloc (.cells (madeCells #[.float .f64 0] n) 41)).alloc o) 41 (some ⟨g, 0, none⟩) n n (fun _ => .float .f64 0) := by
  have e : g = w.heap.size ∨ g = w.heap.size + 1 ∨ g = w.heap.size + 2 := by omega
  rcases e with rfl | rfl | rfl
  · exact (((row_new w n hn).alloc _).alloc _).alloc _
  · have := (((row_new (w.alloc (.cells (madeCells #[.float .f64 0] n) 41)) n hn).alloc (.cells (madeCells #[.float .f64 0] n) 41)).alloc o)
    simpa using this
  · have := ((row_new ((w.alloc (.cells (madeCells #[.float .f64 0] n) 41)).alloc (.cells (madeCells #[.float .f64 0] n) 41)) n hn).alloc o)
    simpa using this
theorem wop_pack (w : World) (n : Nat) (hn : n ≤ 64) (v0 v1 v4 : Value) (gW gT : Nat) (h1 : w.heap.size ≤ gW) (h2 : gW < w.heap.size + 3) (h3 : w.heap.size ≤ gT) (h4 : gT < w.heap.size + 3) (h5 : gW ≠ gT) (p : Nat) (hp : p = w.heap.size + 3) :
    WRel w n (.pointer (some ⟨p, 0, none⟩)) ((((w.alloc (.cells (madeCells #[.float .f64 0] n) 41)).alloc (.cells (madeCells #[.float .f64 0] n) 41)).alloc (.cells (madeCells #[.float .f64 0] n) 41)).alloc (.cells #[v0, v1, .slice (some ⟨gW, 0, none⟩) n n, .slice (some ⟨gT, 0, none⟩) n n, v4] 55)) := by
  have hc := fun j => World.cell?_alloc_new (w := ((w.alloc (.cells (madeCells #[.float .f64 0] n) 41)).alloc (.cells (madeCells #[.float .f64 0] n) 41)).alloc (.cells (madeCells #[.float .f64 0] n) 41)) #[v0, v1, .slice (some ⟨gW, 0, none⟩) n n, .slice (some ⟨gT, 0, none⟩) n n, v4] 55 j
  have e : (((w.alloc (.cells (madeCells #[.float .f64 0] n) 41)).alloc (.cells (madeCells #[.float .f64 0] n) 41)).alloc (.cells (madeCells #[.float .f64 0] n) 41)).heap.size = p := by simp; omega
  rw [e] at hc
  have f1 := (Fr.refl (· < w.heap.size) w).alloc (fun _ e => e) (.cells (madeCells #[.float .f64 0] n) 41)
  have f2 := f1.alloc (fun k hk => by simp; omega) (.cells (madeCells #[.float .f64 0] n) 41)
  have f3 := f2.alloc (fun k hk => by simp; omega) (.cells (madeCells #[.float .f64 0] n) 41)
  have f4 := f3.alloc (fun k hk => by simp; omega) (.cells #[v0, v1, .slice (some ⟨gW, 0, none⟩) n n, .slice (some ⟨gT, 0, none⟩) n n, v4] 55)
  exact ⟨p, gW, gT, rfl, ⟨hc 2, hc 3⟩, row_any w n hn _ gW h1 h2, row_any w n hn _ gT h3 h4, h5, h1, h3, by omega, by omega, f4⟩

/-- what newWalkOperator hands back -/
structure WO (w0 w : World) (L : Nat → Nat → Bool) (n E N : Nat) (p gW gT : Nat) (k : Nat) (fW fT : Nat → Nat) : Prop where
  op : Wop w p gW gT n
  rw : Own w 41 (some ⟨gW, 0, none⟩) n n (fun j => .float .f64 (fW j))
  rt : Own w 41 (some ⟨gT, 0, none⟩) n n (fun j => .float .f64 (fT j))
  nd : ∀ j, j < k → Nd E N (rowL L j n).length (fW j) (fT j)
  fr : Fr (· < w0.heap.size) w0 w
theorem Wop.set {w : World} {p gW gT n : Nat} (h : Wop w p gW gT n) {a : Addr} (ha : p ≠ a.block) (u : Value) : Wop (w.setCell a u) p gW gT n :=
  ⟨(World.cell?_of_block (Below.heap_setCell _ _ _ _ ha)).trans h.c2, (World.cell?_of_block (Below.heap_setCell _ _ _ _ ha)).trans h.c3⟩
theorem Wop.drewN {w : World} {p gW gT n : Nat} (h : Wop w p gW gT n) (q : Nat) : Wop (w.drewN q) p gW gT n := ⟨by rw [World.cell?_drewN]; exact h.c2, by rw [World.cell?_drewN]; exact h.c3⟩
theorem Own.drewN {w : World} {e : TypeId} {a : Option Addr} {len cap : Nat} {V : Nat → Value} (h : Own w e a len cap V) (n : Nat) : Own (w.drewN n) e a len cap V := own_keep h (fun k _ => by rw [World.heap_drewN])

set_option maxRecDepth 100000 in
set_option maxHeartbeats 2000000 in
theorem wop_any (b : Nat) (L : Nat → Nat → Bool) (n : Nat) (Z : Nat → Int) (aI : Option Addr) (cI gO gA cA : Nat) (w : World) (hn : n ≤ 64) (hn0 : 0 < n) (H : Gr w b L n Z aI cI gO gA cA) (hdeg : ∀ i, i < n → 0 < (rowL L i n).length) :
    Calls Try.prog 24 #[.pointer (some ⟨b, 0, none⟩)] w fun e w' => ∃ p N gW gT fW fT, e = .returned (.pointer (some ⟨p, 0, none⟩)) ∧ Nm (adjL L n n).length N ∧ WO w w' L n (adjL L n n).length N p gW gT n fW fT := by
  have hE0 : 0 < (adjL L n n).length := by
    obtain ⟨ys, e⟩ := adjL_mid L n 0 hn0
    have := hdeg 0 hn0
    rw [e]
    simp
    omega
  have hdE : ∀ i, i < n → (rowL L i n).length ≤ (adjL L n n).length := fun i hi => by
    obtain ⟨ys, e⟩ := adjL_mid L n i hi
    rw [e]
    simp
    omega
  have HDG := Hid.mk (And.intro hdeg hdE)
  clear hdeg hdE
  obtain ⟨i0, hi, hz0, hz1, hz2⟩ := info_parts Try.info41
  have d0 := H.c0
  have d1 := H.c1
  have d2 := H.c2
  have hT := adjL_le L n n (Nat.le_refl _) hn
  have HH := Hid.mk H
  clear H
  generalize hTT : (adjL L n n).length = T at *
  have hmk : ∀ w : World, (Instr.makeSlice 38 (.int .i64 (n : Int)) (.int .i64 (n : Int))).run Try.prog w = .ok (.slice (some ⟨w.heap.size, 0, none⟩) n n) (w.alloc (.cells (madeCells #[.float .f64 0] n) 41)) := by
    intro w
    have := run_make (P := Try.prog) w 38 41 i0 (.float .f64 0) Try.underlying38 hi hz0 .i64 .i64 n n (by omega) (by omega) (by rw [hz2]; omega) (by omega)
    simpa [hz1, Value.cells] using this
  clear hi hz0 hz1 hz2
  go_enter Try.func24, Try.ntmps24
  go_upto_region 2 with fail
  go_cut [4] (fun s wc => WRel w.drew n s wc)
  case first =>
    have hGC : GC w b gO n gA T cA := ⟨d1, d2⟩
    go_region_held3 (fun w' => w'.cell? ⟨b, 1, none⟩ = some (.slice (some ⟨gO, 0, none⟩) (n + 1) (n + 1)) ∧ w'.cell? ⟨b, 2, none⟩ = some (.slice (some ⟨gA, 0, none⟩) T cA) ∧ GC w' b gO n gA T cA) ((refine GC.flds ?_; repeat (first | with_reducible refine GC.alloc _ ?_ | with_reducible refine GC.drew ?_ | with_reducible exact hGC))) (fail)
    all_goals go_wp2
    all_goals go_meet
    all_goals exact wop_pack w.drew n hn _ _ _ _ _ (by simp <;> omega) (by simp <;> omega) (by simp <;> omega) (by simp <;> omega) (by omega) _ (by simp)
  case rest =>
    obtain ⟨pp, gW, gT, rfl, hop, hrW, hrT, hne, lW, lT, nW, nT, f0⟩ := hcut
    obtain ⟨wA, rfl⟩ : ∃ x, x = wc := ⟨_, rfl⟩
    have fA : Fr (· < w.heap.size) w wA := ⟨f0.os, f0.tape, f0.output, f0.size, f0.block⟩
    have lW' : w.heap.size ≤ gW := lW
    have lT' : w.heap.size ≤ gT := lT
    clear f0 lW lT hmk
    obtain ⟨xEv, vE, nE⟩ := isV_ofNat T hE0 (lt20 (by omega))
    obtain ⟨xN, N, hsN, vN, rN, N1, N2⟩ := root_all (z := 12) vE nE hE0 (le12 (by omega)) (Nat.le_refl _)
    have HNm : Hid (Nm T N) := ⟨rN, N1, N2, hE0⟩
    have HvN := Hid.mk vN
    have I0 : WO w wA L n T N pp gW gT 0 (fun _ => 0) (fun _ => 0) := ⟨hop, hrW, hrT, fun j hj => by omega, fA⟩
    have HI0 := Hid.mk I0
    have e2 : wA.cell? ⟨b, 2, none⟩ = some (.slice (some ⟨gA, 0, none⟩) T cA) := (fA.cell (World.block_lt_of_cell? _ _ d2)).trans d2
    have hsq := fun w => sqrt_any hsN w
    have HSQ := Hid.mk hsq
    clear I0 hop hrW hrT fA rN vN vE nE d0 d1 d2 hsN N1 N2 hsq hE0
    go_wp2_with fail
    refine (HSQ.out _).mono ?_
    rintro e w' ⟨rfl, rfl⟩
    clear e2 HSQ
    go_wp2
    go_loopw [37] (fun i wr => ∃ (k : Nat) (fW fT : Nat → Nat), k ≤ n ∧ i = .int .i64 k ∧ WO w wr L n T N pp gW gT k fW fT) (fun i _ => n - (intOf i).toNat)
    case atStart => exact ⟨0, _, _, Nat.zero_le _, rfl, HI0.out⟩
    case round =>
      clear HI0
      obtain ⟨k, fW, fT, hk, rfl, I⟩ := hrel
      by_cases hlt : k < n
      · have G := HH.out.fr I.fr
        have HI := Hid.mk I
        clear I
        go_wp2_with fail
        refine (deg_any b L n Z aI cI gO gA cA k wr hn G hlt).mono ?_
        rintro e w' ⟨rfl, q, rfl⟩
        clear G
        have hd0 := HDG.out.1 k hlt
        have hdE := HDG.out.2 k hlt
        have hdn := rowL_len L k n
        obtain ⟨xdv, vd, nd⟩ := isV_ofNat (rowL L k n).length hd0 (lt20 (by omega))
        obtain ⟨xs, S, hsS, vS, rS, S1, S2⟩ := root_all (z := 12) vd nd hd0 (le12 (by omega)) (Nat.le_refl _)
        obtain ⟨xw, xt, hw, ht, hnd⟩ := nd_made HNm.out hdE vS HvN.out rS S1 S2
        have HND := Hid.mk hnd
        have hsq := fun w => sqrt_any hsS w
        have q1 := fun w => run_float_arith (P := Try.prog) w .quo 41 .f64 4607182418800017408 xs xw hw
        have q2 := fun w => run_float_arith (P := Try.prog) w .quo 41 .f64 xs xN xt ht
        clear hnd vd nd vS rS S1 S2 hsS hw ht hd0 hdE
        generalize hRR : (rowL L k n).length = R at *
        have HRR := Hid.mk hRR
        clear hRR
        have op1 := HI.out.op.drewN q
        have rW1 := HI.out.rw.drewN q
        have rT1 := HI.out.rt.drewN q
        have f1 := HI.out.fr.drewN q
        generalize wr.drewN q = wx at *
        have c2 := op1.c2
        obtain ⟨_, eg, _, cw1, cw2⟩ := rW1.get k hlt
        simp at eg
        subst eg
        have HX := Hid.mk (And.intro op1 (And.intro rW1 (And.intro rT1 f1)))
        clear op1 rW1 rT1 f1
        have HSQ := Hid.mk hsq
        clear hsq
        have k2 : (k : Int) < (n : Int) := by omega
        have c2s : ∀ u, (wx.setCell ⟨gW, k, none⟩ u).drew.cell? ⟨pp, 2, none⟩ = some (.slice (some ⟨gW, 0, none⟩) n n) := fun u => (World.cell?_of_block (Below.heap_setCell _ _ _ _ nW)).trans c2
        go_upto_region 8 with fail
        go_region_held3 (fun w' => w'.cell? ⟨pp, 2, none⟩ = some (.slice (some ⟨gW, 0, none⟩) n n)) ((first | exact c2 | exact c2s _)) (first | (go_at_call 27; refine (HSQ.out _).mono ?_; rintro e w' ⟨rfl, rfl⟩))
        have HY : Hid (Wop (wx.setCell ⟨gW, k, none⟩ (.float .f64 xw)).drew pp gW gT n ∧ Own (wx.setCell ⟨gW, k, none⟩ (.float .f64 xw)).drew 41 (some ⟨gW, 0, none⟩) n n (fun j => .float .f64 (if j = k then xw else fW j)) ∧ Own (wx.setCell ⟨gW, k, none⟩ (.float .f64 xw)).drew 41 (some ⟨gT, 0, none⟩) n n (fun j => .float .f64 (fT j)) ∧ Fr (· < w.heap.size) w (wx.setCell ⟨gW, k, none⟩ (.float .f64 xw)).drew) := by
          obtain ⟨o1, r1, r2, f⟩ := HX.out
          refine ⟨(o1.set (a := ⟨gW, k, none⟩) nW _).drewN 1, Own.drewN (r1.set k _ (fun i hi => ?_)) 1, (r2.setOther (p := ⟨gW, k, none⟩) _ (by simp [Value.ownBlock]; omega)).drewN 1, (f.setCell (p := ⟨gW, k, none⟩) (by simp; omega) _).drew⟩
          by_cases e : i = k
          · rw [if_pos e, if_pos e]
          · rw [if_neg e, if_neg e]
        clear HX c2 c2s cw1 cw2
        generalize (wx.setCell ⟨gW, k, none⟩ (.float .f64 xw)).drew = wy at *
        have c3 := HY.out.1.c3
        obtain ⟨_, eg, _, ct1, ct2⟩ := HY.out.2.2.1.get k hlt
        simp at eg
        subst eg
        have c3s : ∀ u, (wy.setCell ⟨gT, k, none⟩ u).drew.cell? ⟨pp, 3, none⟩ = some (.slice (some ⟨gT, 0, none⟩) n n) := fun u => (World.cell?_of_block (Below.heap_setCell _ _ _ _ nT)).trans c3
        go_upto_region 9 with fail
        go_region_held3 (fun w' => w'.cell? ⟨pp, 3, none⟩ = some (.slice (some ⟨gT, 0, none⟩) n n)) ((first | exact c3 | exact c3s _)) (first | (go_at_call 27; refine (HSQ.out _).mono ?_; rintro e w' ⟨rfl, rfl⟩))
        have HZ : Hid (WO w (wy.setCell ⟨gT, k, none⟩ (.float .f64 xt)).drew L n T N pp gW gT (k + 1) (fun j => if j = k then xw else fW j) (fun j => if j = k then xt else fT j)) := by
          obtain ⟨o1, r1, r2, f⟩ := HY.out
          refine ⟨(o1.set (a := ⟨gT, k, none⟩) nT _).drewN 1, (r1.setOther (p := ⟨gT, k, none⟩) _ (by simp [Value.ownBlock]; omega)).drewN 1, Own.drewN (r2.set k _ (fun i hi => ?_)) 1, fun j hj => ?_, (f.setCell (p := ⟨gT, k, none⟩) (by simp; omega) _).drew⟩
          · by_cases e : i = k
            · rw [if_pos e, if_pos e]
            · rw [if_neg e, if_neg e]
          · by_cases e : j = k
            · subst e
              rw [if_pos rfl, if_pos rfl, HRR.out]
              exact HND.out
            · rw [if_neg e, if_neg e]
              exact HI.out.nd j (by omega)
        clear HY c3 c3s ct1 ct2 HI HND HSQ q1 q2
        generalize (wy.setCell ⟨gT, k, none⟩ (.float .f64 xt)).drew = wz at *
        go_wp2
        go_roundw
        case rel => exact ⟨k + 1, _, _, by omega, by go_num, HZ.out⟩
        case measure => simp [intOf]; omega
      · have e : k = n := by omega
        subst e
        have HI := Hid.mk I
        clear I HH
        go_wp2
        go_ret
        exact ⟨pp, N, gW, gT, fW, fT, rfl, HNm.out, HI.out⟩

end Go.Proofs.Qxb6003682a

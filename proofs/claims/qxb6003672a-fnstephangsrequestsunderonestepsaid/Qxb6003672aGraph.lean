import Derived.Test.Qxb6003672aGraphA
import Derived.Test.Qxb6003672aPlain
import Derived.Deep.RegionHeld3
import Derived.Deep.DeepCutAuto
import Derived.Deep.DrawnRows
import Derived.Deep.CutBlock
import Derived.BigRegion
import Derived.Deep.RegionLaw
import Derived.Deep.QuietTactic
import Derived.BigQuiet
namespace Go.Proofs.Qxb6003672a
open Go.RowKit
set_option linter.unusedVariables false
attribute [local go_sem ↓] Go.wp_at_zero Go.wp_at_succ

theorem Six.all {w : World} {g : Nat} {a0 a1 a2 a3 a4 a5 : Value} (h : Six w g a0 a1 a2 a3 a4 a5) : w.cell? ⟨g, 0, none⟩ = some a0 ∧ w.cell? ⟨g, 1, none⟩ = some a1 ∧ w.cell? ⟨g, 2, none⟩ = some a2 ∧ w.cell? ⟨g, 3, none⟩ = some a3 ∧ w.cell? ⟨g, 4, none⟩ = some a4 ∧ w.cell? ⟨g, 5, none⟩ = some a5 ∧
    w.frozen? ⟨g, 0, none⟩ = false ∧ w.frozen? ⟨g, 1, none⟩ = false ∧ w.frozen? ⟨g, 2, none⟩ = false ∧ w.frozen? ⟨g, 3, none⟩ = false ∧ w.frozen? ⟨g, 4, none⟩ = false ∧ w.frozen? ⟨g, 5, none⟩ = false :=
  ⟨h.cell 0, h.cell 1, h.cell 2, h.cell 3, h.cell 4, h.cell 5, h.frozen 0, h.frozen 1, h.frozen 2, h.frozen 3, h.frozen 4, h.frozen 5⟩
theorem Six.behind1 {W Y : World} (hf : Fr (· < (W.alloc (.cells #[nilS, nilS, nilS, nilS, nilS, nilS] 31)).heap.size) (W.alloc (.cells #[nilS, nilS, nilS, nilS, nilS, nilS] 31)) Y) : Six Y W.heap.size nilS nilS nilS nilS nilS nilS :=
  Six.fr hf (heap_alloc_new W _)
theorem Six.behind2 {W Y : World} (hf : Fr (· < (W.alloc (.cells #[nilS, nilS, nilS, nilS, nilS, nilS] 31)).drew.heap.size) (W.alloc (.cells #[nilS, nilS, nilS, nilS, nilS, nilS] 31)).drew Y) : Six Y W.heap.size nilS nilS nilS nilS nilS nilS :=
  Six.fr hf (heap_alloc_new W _)

theorem Hid.mk {p : Prop} (h : p) : Hid p := h

theorem Bld.flds2 {w : World} {b : Nat} {n : Int} {vn vu vw : Value} (h : Bld w b n vn vu vw) : w.cell? ⟨b, 5, none⟩ = some nilS ∧ w.cell? ⟨b, 3, none⟩ = some vw ∧ Bld w b n vn vu vw := by
  have d1 := h.cell 5
  have d2 := h.cell 3
  simp at d1 d2
  exact ⟨d1, d2, h⟩

theorem Bld.flds3 {w : World} {b : Nat} {n : Int} {vn vu vw : Value} (h : Bld w b n vn vu vw) : w.cell? ⟨b, 9, none⟩ = some nilS ∧ w.cell? ⟨b, 3, none⟩ = some vw ∧ Bld w b n vn vu vw := by
  have d1 := h.cell 9
  have d2 := h.cell 3
  simp at d1 d2
  exact ⟨d1, d2, h⟩

theorem Six.grownD {Y w1 : World} {g : Nat} {a0 a1 a2 a3 a4 a5 : Value} (h : Six Y g a0 a1 a2 a3 a4 a5) (hg : Y.drew.grownBy w1 none) : Six w1 g a0 a1 a2 a3 a4 a5 := h.keep (hg.block g h.lt (by simp))

/-- the keys -/
def kv (ws : List (Int × Int × Int)) (i : Nat) : Nat := (ws.getD i (0, 0, 0)).1.toNat
def kt (ws : List (Int × Int × Int)) (i : Nat) : Nat := (ws.getD i (0, 0, 0)).2.1.toNat

theorem wcells_at : ∀ (ws : List (Int × Int × Int)) (k : Nat), k < ws.length → (wcells ws)[k * 3]? = some (.int .i64 (ws.getD k (0, 0, 0)).1) ∧ (wcells ws)[k * 3 + 1]? = some (.int .i64 (ws.getD k (0, 0, 0)).2.1) ∧ (wcells ws)[k * 3 + 2]? = some (.int .i64 (ws.getD k (0, 0, 0)).2.2)
  | e :: ws, 0, _ => by simp [wcells]
  | e :: ws, k + 1, h => by
    have := wcells_at ws k (by simpa using h)
    have h1 : (k + 1) * 3 = k * 3 + 3 := by omega
    simp only [h1, wcells, List.flatMap_cons, List.cons_append, List.nil_append, List.getElem?_cons_succ, List.getD_cons_succ]
    exact this

/-- the waits' slice: its form, its cells -/
theorem Wts.form {w : World} {v : Value} {ws : List (Int × Int × Int)} (h : Wts w v ws) : ∃ a c, v = .slice a ws.length c ∧ ∀ k, k < ws.length → ∃ g, a = some ⟨g, 0, none⟩ ∧ v.ownBlock = some g ∧
    w.cell? ⟨g, k * 3, none⟩ = some (.int .i64 (ws.getD k (0, 0, 0)).1) ∧ w.cell? ⟨g, k * 3 + 1, none⟩ = some (.int .i64 (ws.getD k (0, 0, 0)).2.1) ∧ w.cell? ⟨g, k * 3 + 2, none⟩ = some (.int .i64 (ws.getD k (0, 0, 0)).2.2) := by
  have h' := h
  rcases h.2 with ⟨rfl, h0⟩ | ⟨g, cap, cur, rfl, _⟩
  · exact ⟨none, 0, by rw [h0], fun k hk => by omega⟩
  · refine ⟨_, cap, rfl, fun k hk => ⟨g, rfl, rfl, ?_⟩⟩
    obtain ⟨e1, e2, e3⟩ := wcells_at ws k hk
    exact ⟨(World.ownsRow.cellAt h' (k * 3) (by omega)).trans e1, (World.ownsRow.cellAt h' (k * 3 + 1) (by omega)).trans e2, (World.ownsRow.cellAt h' (k * 3 + 2) (by omega)).trans e3⟩

/-- six stores from offset 4 on -/
theorem Row.fill4 {w : World} {v : Value} {k : Nat} {zs : List Int} {g : Nat} (hg : v.ownBlock ≠ some g) (h : Row w v k zs) (x0 x1 x2 x3 x4 x5 : Value) :
    Row ((((((w.setCell ⟨g, 4, none⟩ x0).setCell ⟨g, 5, none⟩ x1).setCell ⟨g, 6, none⟩ x2).setCell ⟨g, 7, none⟩ x3).setCell ⟨g, 8, none⟩ x4).setCell ⟨g, 9, none⟩ x5) v k zs :=
  (((((h.setOther _ hg).setOther _ hg).setOther _ hg).setOther _ hg).setOther _ hg).setOther _ hg
theorem Fr.fill4 {F : Nat → Prop} {a w : World} {g : Nat} (hg : ¬ F g) (h : Fr F a w) (x0 x1 x2 x3 x4 x5 : Value) :
    Fr F a ((((((w.setCell ⟨g, 4, none⟩ x0).setCell ⟨g, 5, none⟩ x1).setCell ⟨g, 6, none⟩ x2).setCell ⟨g, 7, none⟩ x3).setCell ⟨g, 8, none⟩ x4).setCell ⟨g, 9, none⟩ x5) :=
  (((((h.setCell hg _).setCell hg _).setCell hg _).setCell hg _).setCell hg _).setCell hg _

/-- what Graph hands back -/
def GOut (F : Nat → Prop) (w : World) (n : Nat) (need up : List Int) (ws : List (Int × Int × Int)) (e : Ending) (w' : World) : Prop :=
  ∃ (a1 : Option Addr) (c1 : Nat) (a2 : Option Addr) (c2 : Nat) (a3 : Option Addr) (c3 : Nat) (a4 : Option Addr) (c4 : Nat) (a5 : Option Addr) (c5 : Nat) (a6 : Option Addr) (c6 : Nat) (tos xs : List Int),
    e = .returned (.agg #[.slice a1 (n + 1) c1, .slice a2 ws.length c2, .slice a3 need.length c3, .slice a4 up.length c4, .slice a5 (n + 1) c5, .slice a6 ws.length c6]) ∧
    Row w' (.slice a1 (n + 1) c1) (n + 1) (tab (n + 1) (fun j => (lo (kv ws) j ws.length : Int))) ∧ Row w' (.slice a2 ws.length c2) ws.length tos ∧ Row w' (.slice a3 need.length c3) need.length need ∧
    Row w' (.slice a4 up.length c4) up.length up ∧ Row w' (.slice a5 (n + 1) c5) (n + 1) (tab (n + 1) (fun j => (lo (kt ws) j ws.length : Int))) ∧ Row w' (.slice a6 ws.length c6) ws.length xs ∧
    Filled (kv ws) ws.length (fun i => (ws.getD i (0, 0, 0)).2.1) ws.length tos ∧ Filled (kt ws) ws.length (fun i => (ws.getD i (0, 0, 0)).2.2) ws.length xs ∧ Fr F w w'

theorem JG.fin {F : Nat → Prop} {w wc : World} {b n : Nat} {need up : List Int} {ws : List (Int × Int × Int)} {an au av aA aB : Option Addr} {c1 c2 cv gb gf cf gw cw cA cB gn kn : Nat} {tos xs nx : List Int} (hF : ∀ k, F k → k < w.heap.size)
    (h : BV F w b n need up ws (.slice an need.length c1) (.slice au up.length c2) (.slice av ws.length cv))
    (J : JG w b n ws.length (.slice an need.length c1) (.slice au up.length c2) (.slice av ws.length cv) wc gb gf cf gw cw (.slice aA ws.length cA) (.slice aB ws.length cB) gn kn (tab (n + 1) (fun j => (lo (kv ws) j ws.length : Int))) (tab (n + 1) (fun j => (lo (kt ws) j ws.length : Int))) tos xs nx)
    (Fo : Filled (kv ws) ws.length (fun i => (ws.getD i (0, 0, 0)).2.1) ws.length tos) (Fx : Filled (kt ws) ws.length (fun i => (ws.getD i (0, 0, 0)).2.2) ws.length xs) (x0 x1 x2 x3 x4 x5 y0 y1 y2 y3 y4 y5 : Value) :
    GOut F w n need up ws (.returned (.agg #[.slice (some ⟨gf, 0, none⟩) (n + 1) cf, .slice aA ws.length cA, .slice an need.length c1, .slice au up.length c2, .slice (some ⟨gw, 0, none⟩) (n + 1) cw, .slice aB ws.length cB]))
      ((((((((((((wc.setCell ⟨b, 4, none⟩ x0).setCell ⟨b, 5, none⟩ x1).setCell ⟨b, 6, none⟩ x2).setCell ⟨b, 7, none⟩ x3).setCell ⟨b, 8, none⟩ x4).setCell ⟨b, 9, none⟩ x5).setCell ⟨w.heap.size, 0, none⟩ y0).setCell ⟨w.heap.size, 1, none⟩ y1).setCell ⟨w.heap.size, 2, none⟩ y2).setCell ⟨w.heap.size, 3, none⟩ y3).setCell ⟨w.heap.size, 4, none⟩ y4).setCell ⟨w.heap.size, 5, none⟩ y5) := by
  have hb := J.hb
  have hgf := J.hgf
  have hgw := J.hgw
  have nb := h.blk.off (by decide) h.rn
  have ub := h.blk.off (by decide) h.ru
  have kN := h.rn.fr J.fr (fun k e => ⟨own_lt h.rn e, fun e' => nb (e' ▸ e)⟩)
  have kU := h.ru.fr J.fr (fun k e => ⟨own_lt h.ru e, fun e' => ub (e' ▸ e)⟩)
  have ob : (Value.slice aA ws.length cA).ownBlock ≠ some b := fun e => by have := (J.t1 _ e).1; omega
  have o_r : (Value.slice aA ws.length cA).ownBlock ≠ some w.heap.size := fun e => by have := (J.t1 _ e).1; omega
  have xb : (Value.slice aB ws.length cB).ownBlock ≠ some b := fun e => by have := (J.t2 _ e).1; omega
  have xr : (Value.slice aB ws.length cB).ownBlock ≠ some w.heap.size := fun e => by have := (J.t2 _ e).1; omega
  have nr : (Value.slice an need.length c1).ownBlock ≠ some w.heap.size := fun e => by have := own_lt h.rn e; omega
  have ur : (Value.slice au up.length c2).ownBlock ≠ some w.heap.size := fun e => by have := own_lt h.ru e; omega
  refine ⟨_, _, _, _, _, _, _, _, _, _, _, _, tos, xs, rfl, ?_, ?_, ?_, ?_, ?_, ?_, Fo, Fx, ?_⟩
  · exact (J.rf.fill4 (by simp [Value.ownBlock]; omega) _ _ _ _ _ _).fill (by simp [Value.ownBlock]; omega) _ _ _ _ _ _
  · exact (J.ro.fill4 ob _ _ _ _ _ _).fill o_r _ _ _ _ _ _
  · exact (kN.fill4 nb _ _ _ _ _ _).fill nr _ _ _ _ _ _
  · exact (kU.fill4 ub _ _ _ _ _ _).fill ur _ _ _ _ _ _
  · exact (J.rt.fill4 (by simp [Value.ownBlock]; omega) _ _ _ _ _ _).fill (by simp [Value.ownBlock]; omega) _ _ _ _ _ _
  · exact (J.rx.fill4 xb _ _ _ _ _ _).fill xr _ _ _ _ _ _
  · exact ((J.fr.mono (fun k e => ⟨hF k e, fun e' => h.fb (e' ▸ e)⟩)).fill4 h.fb _ _ _ _ _ _).fill (fun e => by have := hF _ e; omega) _ _ _ _ _ _

set_option maxRecDepth 100000 in
set_option maxHeartbeats 8000000 in
theorem graph_pos (F : Nat → Prop) (b n : Nat) (need up : List Int) (ws : List (Int × Int × Int)) (w : World) (hF : ∀ k, F k → k < w.heap.size) (h : BS F w b n need up ws)
    (h0 : 0 < n) (hn : n ≤ 65536) (hL1 : n ≤ need.length) (hL2 : n ≤ up.length) (hm : ws.length ≤ 65536) (hv : ∀ e ∈ ws, 0 ≤ e.1 ∧ e.1 < n ∧ 0 ≤ e.2.1 ∧ e.2.1 < n) :
    Calls Try.prog 13 #[.pointer (some ⟨b, 0, none⟩)] w fun e w' => GOut F w n need up ws e w' := by
  obtain ⟨vn, vu, vw, h⟩ := h
  obtain ⟨g1, c1, e1⟩ := h.rn.form (by omega)
  obtain ⟨g2, c2, e2⟩ := h.ru.form (by omega)
  subst e1 e2
  obtain ⟨av, cv, hvw, hcells⟩ := h.rw.form
  subst hvw
  have d0 := h.blk.cell 0
  simp at d0
  have hbl := h.blk.lt
  go_enter Try.func13, Try.ntmps13
  go_wp2
  have hB : Bld (w.alloc (.cells #[nilS, nilS, nilS, nilS, nilS, nilS] 31)) b n (.slice (some ⟨g1, 0, none⟩) need.length c1) (.slice (some ⟨g2, 0, none⟩) up.length c2) (.slice av ws.length cv) := h.blk.alloc _
  have hS : w.heap.size < (w.alloc (.cells #[nilS, nilS, nilS, nilS, nilS, nilS] 31)).heap.size := by simp
  generalize hW : w.alloc (.cells #[nilS, nilS, nilS, nilS, nilS, nilS] 31) = W at *
  have HW : Hid (w.alloc (.cells #[nilS, nilS, nilS, nilS, nilS, nilS] 31) = W) := hW
  clear hW d0
  have hw1 : IntKind.i64.wrap ((n : Int) + 1) = (n : Int) + 1 := by rw [IntKind.wrap_i64]; omega
  have d1 := hB.cell 1
  have d2 := hB.cell 2
  have d4 := hB.cell 4
  have d8 := hB.cell 8
  simp at d1 d2 d4 d8
  go_cut [4] (fun s4 wc => ∃ gb gf cf gw cw, s4 = .pointer (some ⟨gb, 0, none⟩) ∧ IG w b n (.slice (some ⟨g1, 0, none⟩) need.length c1) (.slice (some ⟨g2, 0, none⟩) up.length c2) (.slice av ws.length cv) wc gb gf cf gw cw nilS nilS (List.replicate (n + 1) 0) (List.replicate (n + 1) 0))
  case first =>
    go_region_held3 (fun w' => w'.cell? ⟨b, 1, none⟩ = some (.slice (some ⟨g1, 0, none⟩) need.length c1) ∧ w'.cell? ⟨b, 2, none⟩ = some (.slice (some ⟨g2, 0, none⟩) up.length c2) ∧ w'.cell? ⟨b, 4, none⟩ = some nilS ∧ w'.cell? ⟨b, 8, none⟩ = some nilS ∧ Bld w' b n (.slice (some ⟨g1, 0, none⟩) need.length c1) (.slice (some ⟨g2, 0, none⟩) up.length c2) (.slice av ws.length cv)) ((refine Bld.flds ?_; repeat (first | with_reducible refine Bld.setFar (by simp; omega) _ ?_ | with_reducible refine Bld.alloc _ ?_ | with_reducible refine Bld.drew ?_ | with_reducible refine Bld.fr hfB ?_ | with_reducible refine Bld.fr hfA ?_ | with_reducible exact hB))) (first | (go_at_call 29; have hh := hfA; refine (zeroed_posI _ (n + 1) _ (by omega) (by omega) (by omega)).mono ?_; rintro e wB ⟨gB, cB, rfl, hrB, hsB, hfB⟩; have hzB := hfB.size; (try simp at hzB); (try simp at hsB); (try ((first | (with_reducible (have hq2 := Six.behind1 hfB)) | (with_reducible (have hq2 := Six.fr hfB hq))); obtain ⟨q0, q1, q2, q3, q4, q5, q6, q7, q8, q9, q10, q11⟩ := hq2.all))) | (go_at_call 29; refine (zeroed_posI _ (n + 1) _ (by omega) (by omega) (by omega)).mono ?_; rintro e wA ⟨gA, cA, rfl, hrA, hsA, hfA⟩; have hzA := hfA.size; (try simp at hzA); (try simp at hsA); (try (first | (with_reducible (have hq := Six.behind1 hfA)) | (with_reducible (have hq := Six.behind2 hfA))))))
    all_goals go_wp2
    · go_meet
      case rel => exact ⟨_, _, _, _, _, rfl, start1 h.blk HW.out hrA hsA hfA hrB hsB hfB⟩
    · go_meet
      case rel => exact ⟨_, _, _, _, _, rfl, start2 h.blk HW.out hrA hsA hfA hrB hsB hfB⟩
    · go_meet
      case rel => exact ⟨_, _, _, _, _, rfl, start3 h.blk HW.out hrA hsA hfA hrB hsB hfB⟩
  case rest =>
    obtain ⟨gb, gf, cf, gw, cw, rfl, hI⟩ := hcut
    have hwb := h.blk.off (by decide) h.rw
    have hI0 := hI
    rw [F1_zero (kv ws)] at hI0
    clear d1 d2 d4 d8 hB hw1 hS HW
    have d3 := hI.blk.cell 3
    simp at d3
    go_upto_block 0 with fail
    go_cut [4] (fun s4 w2 => s4 = .pointer (some ⟨gb, 0, none⟩) ∧ IG w b n (.slice (some ⟨g1, 0, none⟩) need.length c1) (.slice (some ⟨g2, 0, none⟩) up.length c2) (.slice av ws.length cv) w2 gb gf cf gw cw nilS nilS (tab (n + 1) (F1 (kv ws) ws.length)) (tab (n + 1) (F1 (kt ws) ws.length)))
    case first =>
      go_wp2
      go_loopw [46] (fun i wr => ∃ k : Nat, k ≤ ws.length ∧ i = .int .i64 k ∧ IG w b n (.slice (some ⟨g1, 0, none⟩) need.length c1) (.slice (some ⟨g2, 0, none⟩) up.length c2) (.slice av ws.length cv) wr gb gf cf gw cw nilS nilS (tab (n + 1) (F1 (kv ws) k)) (tab (n + 1) (F1 (kt ws) k))) (fun i _ => ws.length - (intOf i).toNat)
      case atStart => exact ⟨0, Nat.zero_le _, rfl, by rw [← F1_zero, ← F1_zero]; exact hI⟩
      case round =>
        clear hI hI0 d3
        obtain ⟨k, hk, rfl, I⟩ := hrel
        by_cases hlt : k < ws.length
        · obtain ⟨g, hav, hgv, x0, x1, x2⟩ := hcells k hlt
          subst hav
          obtain ⟨v1, v2, v3, v4⟩ := hv (ws.getD k (0, 0, 0)) (by simp [List.getD, hlt])
          have ek : (ws.getD k (0, 0, 0)).1 = ((kv ws k : Nat) : Int) := by unfold kv; omega
          have et : (ws.getD k (0, 0, 0)).2.1 = ((kt ws k : Nat) : Int) := by unfold kt; omega
          have hgl := own_lt h.rw hgv
          have hgb : g ≠ b := fun e => hwb (e ▸ hgv)
          have y0 : wr.cell? ⟨g, k * 3, none⟩ = some (.int .i64 (kv ws k : Nat)) := by rw [← ek]; exact (I.fr.cell (p := ⟨g, k * 3, none⟩) ⟨hgl, hgb⟩).trans x0
          have y1 : wr.cell? ⟨g, k * 3 + 1, none⟩ = some (.int .i64 (kt ws k : Nat)) := by rw [← et]; exact (I.fr.cell (p := ⟨g, k * 3 + 1, none⟩) ⟨hgl, hgb⟩).trans x1
          have y2 : wr.cell? ⟨g, k * 3 + 2, none⟩ = some (.int .i64 (ws.getD k (0, 0, 0)).2.2) := (I.fr.cell (p := ⟨g, k * 3 + 2, none⟩) ⟨hgl, hgb⟩).trans x2
          have kb : kv ws k < n := by omega
          have tb : kt ws k < n := by omega
          clear x0 x1 x2 ek et v1 v2 v3 v4 hwb
          generalize (ws.getD k (0, 0, 0)).2.2 = rr at *
          generalize ekx : kv ws k = x at *
          generalize ety : kt ws k = y at *
          have EX : Hid (kv ws k = x) := ekx
          have EY : Hid (kt ws k = y) := ety
          clear ekx ety
          have c0 := I.gph.cell 0
          have c4 := I.gph.cell 4
          simp at c0 c4
          have m1 := I.rf.cell (x + 1) (by omega)
          have m2 := I.rt.cell (y + 1) (by omega)
          rw [tab_get _ _ _ (by omega)] at m1 m2
          have m3 := I.rf.frozen (x + 1)
          have m4 := I.rt.frozen (y + 1)
          have b1 := F1_bd (kv ws) k (x + 1)
          have b2 := F1_bd (kt ws) k (y + 1)
          obtain ⟨n1, n2, n3, n4, n5, n6, n7⟩ := I.ne
          have l1 := I.rf.lt
          have l2 := I.rt.lt
          have l3 := I.gph.lt
          have hgw := I.hgw
          have S1 : ∀ o, IG w b n (.slice (some ⟨g1, 0, none⟩) need.length c1) (.slice (some ⟨g2, 0, none⟩) up.length c2) (.slice (some ⟨g, 0, none⟩) ws.length cv) (((wr.setCell ⟨gf, x + 1, none⟩ (.int .i64 (F1 (kv ws) k (x + 1) + 1))).setCell ⟨gw, y + 1, none⟩ (.int .i64 (F1 (kt ws) k (y + 1) + 1))).alloc o) gb gf cf gw cw nilS nilS (tab (n + 1) (F1 (kv ws) (k + 1))) (tab (n + 1) (F1 (kt ws) (k + 1))) := by
            intro o
            have e1 := F1_step (kv ws) (n + 1) k
            have e2 := F1_step (kt ws) (n + 1) k
            rw [EX.out] at e1
            rw [EY.out] at e2
            rw [← e1, ← e2]
            exact ((I.setF _ _).setT _ _).alloc o
          have HS := Hid.mk S1
          clear S1 I hcells hv h
          generalize F1 (kv ws) k (x + 1) = p at *
          generalize F1 (kt ws) k (y + 1) = q at *
          go_wp2
          go_roundw
          case rel => exact ⟨k + 1, by omega, by go_num, HS.out _⟩
          case measure => simp [intOf]; omega
        · have e : k = ws.length := by omega
          subst e
          go_wp2
          go_meet
          case rel => exact ⟨rfl, I⟩
    case rest =>
      obtain ⟨rfl, I1⟩ := hcut
      rw [F2_zero, F2_zero] at I1
      clear hI hI0 d3
      go_upto_block 2 with fail
      go_cut [4] (fun s4 w3 => s4 = .pointer (some ⟨gb, 0, none⟩) ∧ IG w b n (.slice (some ⟨g1, 0, none⟩) need.length c1) (.slice (some ⟨g2, 0, none⟩) up.length c2) (.slice av ws.length cv) w3 gb gf cf gw cw nilS nilS (tab (n + 1) (F2 (kv ws) ws.length n)) (tab (n + 1) (F2 (kt ws) ws.length n)))
      case first =>
        go_wp2
        go_loopw [70] (fun i wr => ∃ k : Nat, k ≤ n ∧ i = .int .i64 k ∧ IG w b n (.slice (some ⟨g1, 0, none⟩) need.length c1) (.slice (some ⟨g2, 0, none⟩) up.length c2) (.slice av ws.length cv) wr gb gf cf gw cw nilS nilS (tab (n + 1) (F2 (kv ws) ws.length k)) (tab (n + 1) (F2 (kt ws) ws.length k))) (fun i _ => n - (intOf i).toNat)
        case atStart => exact ⟨0, Nat.zero_le _, rfl, I1⟩
        case round =>
          clear I1 h hcells hv
          obtain ⟨k, hk, rfl, I⟩ := hrel
          by_cases hlt : k < n
          · have c0 := I.gph.cell 0
            have c4 := I.gph.cell 4
            simp at c0 c4
            have m1 := I.rf.cell k (by omega)
            have m2 := I.rf.cell (k + 1) (by omega)
            have m3 := I.rt.cell k (by omega)
            have m4 := I.rt.cell (k + 1) (by omega)
            rw [tab_get _ _ _ (by omega)] at m1 m2 m3 m4
            have f1 := I.rf.frozen (k + 1)
            have f2 := I.rt.frozen (k + 1)
            have b1 := F2_bd (kv ws) ws.length k k
            have b2 := F2_bd (kv ws) ws.length k (k + 1)
            have b3 := F2_bd (kt ws) ws.length k k
            have b4 := F2_bd (kt ws) ws.length k (k + 1)
            obtain ⟨n1, n2, n3, n4, n5, n6, n7⟩ := I.ne
            have hgw := I.hgw
            have S1 : IG w b n (.slice (some ⟨g1, 0, none⟩) need.length c1) (.slice (some ⟨g2, 0, none⟩) up.length c2) (.slice av ws.length cv) ((wr.setCell ⟨gf, k + 1, none⟩ (.int .i64 (F2 (kv ws) ws.length k (k + 1) + F2 (kv ws) ws.length k k))).setCell ⟨gw, k + 1, none⟩ (.int .i64 (F2 (kt ws) ws.length k (k + 1) + F2 (kt ws) ws.length k k))) gb gf cf gw cw nilS nilS (tab (n + 1) (F2 (kv ws) ws.length (k + 1))) (tab (n + 1) (F2 (kt ws) ws.length (k + 1))) := by
              rw [← F2_step, ← F2_step]
              exact (I.setF _ _).setT _ _
            have HS := Hid.mk S1
            clear S1 I
            generalize F2 (kv ws) ws.length k (k + 1) = p1 at *
            generalize F2 (kv ws) ws.length k k = p2 at *
            generalize F2 (kt ws) ws.length k (k + 1) = p3 at *
            generalize F2 (kt ws) ws.length k k = p4 at *
            have i1 : (0 : Int) ≤ (k : Int) + 1 := by omega
            have i2 : (k : Int) + 1 < (n : Int) + 1 := by omega
            have i3 : (k : Int) < (n : Int) + 1 := by omega
            have i4 : (0 : Int) ≤ (k : Int) := by omega
            have w0 : IntKind.i64.wrap ((k : Int) + 1) = (k : Int) + 1 := by rw [IntKind.wrap_i64]; omega
            have w1 : IntKind.i64.wrap (p1 + p2) = p1 + p2 := by rw [IntKind.wrap_i64]; omega
            have w2 : IntKind.i64.wrap (p3 + p4) = p3 + p4 := by rw [IntKind.wrap_i64]; omega
            go_wp2
            go_big_region
            all_goals
              go_wp2
              go_big_region
            all_goals
              go_wp2
              go_roundw
              case rel => exact ⟨k + 1, by omega, by go_num, HS.out.drew.drew⟩
              case measure => simp [intOf]; omega
          · have e : k = n := by omega
            subst e
            go_wp2
            go_meet
            case rel => exact ⟨rfl, I⟩
      case rest =>
        obtain ⟨rfl, I2⟩ := hcut
        rw [F2_end, F2_end] at I2
        clear I1
        have B5 := I2.blk.cell 5
        have B3 := I2.blk.cell 3
        simp at B5 B3
        have n7 := I2.ne.2.2.2.2.2.2
        have hIB := I2.blk
        go_upto_region 15 with fail
        go_region_held3 (fun w' => w'.cell? ⟨b, 5, none⟩ = some nilS ∧ w'.cell? ⟨b, 3, none⟩ = some (.slice av ws.length cv) ∧ Bld w' b n (.slice (some ⟨g1, 0, none⟩) need.length c1) (.slice (some ⟨g2, 0, none⟩) up.length c2) (.slice av ws.length cv)) ((refine Bld.flds2 ?_; repeat (first | with_reducible refine Bld.setFar (by simp; omega) _ ?_ | with_reducible refine Bld.drew ?_ | with_reducible refine Bld.fr hfA ?_ | with_reducible exact hIB))) (first | (go_at_call 29; refine (zeroed_anyI _ ws.length _ (by first | rfl | simp) (by omega)).mono ?_; rintro e wA ⟨aA, cA, rfl, hrA, hsA, hfA⟩; have hq := Six.fr hfA I2.gph; have q1 := hq.cell 1; simp at q1; have q2 := hq.frozen 1))
        have I3 : IG w b n (.slice (some ⟨g1, 0, none⟩) need.length c1) (.slice (some ⟨g2, 0, none⟩) up.length c2) (.slice av ws.length cv) (wA.setCell ⟨gb, 1, none⟩ (.slice aA ws.length cA)) gb gf cf gw cw (.slice aA ws.length cA) nilS (tab (n + 1) (fun j => (lo (kv ws) j ws.length : Int))) (tab (n + 1) (fun j => (lo (kt ws) j ws.length : Int))) := (I2.drew.frN hfA).to1 _
        have RT : Row (wA.setCell ⟨gb, 1, none⟩ (.slice aA ws.length cA)) (.slice aA ws.length cA) ws.length (List.replicate ws.length 0) := hrA.setOther _ (hq.off (by decide) hrA)
        have T1 : ∀ g, (Value.slice aA ws.length cA).ownBlock = some g → gw < g := fun g e => Nat.lt_of_lt_of_le I2.rt.lt (hsA g e)
        clear hrA hsA hfA hq q1 q2 B5 B3 hIB I2
        generalize wA.setCell ⟨gb, 1, none⟩ (.slice aA ws.length cA) = X at *
        have B5 := I3.blk.cell 9
        have B3 := I3.blk.cell 3
        simp at B5 B3
        have hIB := I3.blk
        go_upto_region 16 with fail
        go_region_held3 (fun w' => w'.cell? ⟨b, 9, none⟩ = some nilS ∧ w'.cell? ⟨b, 3, none⟩ = some (.slice av ws.length cv) ∧ Bld w' b n (.slice (some ⟨g1, 0, none⟩) need.length c1) (.slice (some ⟨g2, 0, none⟩) up.length c2) (.slice av ws.length cv)) ((refine Bld.flds3 ?_; repeat (first | with_reducible refine Bld.setFar (by simp; omega) _ ?_ | with_reducible refine Bld.drew ?_ | with_reducible refine Bld.fr hfB ?_ | with_reducible exact hIB))) (first | (go_at_call 29; refine (zeroed_anyI _ ws.length _ (by first | rfl | simp) (by omega)).mono ?_; rintro e wB ⟨aB, cB, rfl, hrB, hsB, hfB⟩; have hq := Six.fr hfB I3.gph; have q1 := hq.cell 5; simp at q1; have q2 := hq.frozen 5))
        have I4 : IG w b n (.slice (some ⟨g1, 0, none⟩) need.length c1) (.slice (some ⟨g2, 0, none⟩) up.length c2) (.slice av ws.length cv) (wB.setCell ⟨gb, 5, none⟩ (.slice aB ws.length cB)) gb gf cf gw cw (.slice aA ws.length cA) (.slice aB ws.length cB) (tab (n + 1) (fun j => (lo (kv ws) j ws.length : Int))) (tab (n + 1) (fun j => (lo (kt ws) j ws.length : Int))) := (I3.drew.frN hfB).to5 _
        have RX : Row (wB.setCell ⟨gb, 5, none⟩ (.slice aB ws.length cB)) (.slice aB ws.length cB) ws.length (List.replicate ws.length 0) := hrB.setOther _ (hq.off (by decide) hrB)
        have RT2 : Row (wB.setCell ⟨gb, 5, none⟩ (.slice aB ws.length cB)) (.slice aA ws.length cA) ws.length (List.replicate ws.length 0) := (RT.drew.frN hfB).setOther _ (hq.off (by decide) (RT.drew.frN hfB))
        have T2 : ∀ g, (Value.slice aB ws.length cB).ownBlock = some g → gw < g ∧ (Value.slice aA ws.length cA).ownBlock ≠ some g := fun g e => ⟨Nat.lt_of_lt_of_le I3.rt.lt (hsB g e), fun e' => by have := own_lt RT e'; have := hsB g e; simp at this; omega⟩
        clear hrB hsB hfB hq q1 q2 B5 B3 hIB I3 RT
        generalize wB.setCell ⟨gb, 5, none⟩ (.slice aB ws.length cB) = Y at *
        go_upto_region 17 with fail
        have B10 := I4.blk.cell 10
        have c0 := I4.gph.cell 0
        have c4 := I4.gph.cell 4
        simp at B10 c0 c4
        have i1 : (0 : Int) ≤ (n : Int) := by omega
        have i2 : (n : Int) ≤ (n : Int) + 1 := by omega
        have i3 : n ≤ cf := by have h := I4.rf.2; rcases h with ⟨h, _⟩ | ⟨_, _, _, h, _, _, h5, _⟩ <;> simp at h; omega
        have i4 : n ≤ cw := by have h := I4.rt.2; rcases h with ⟨h, _⟩ | ⟨_, _, _, h, _, _, h5, _⟩ <;> simp at h; omega
        have i5 : (n : Int) ≤ (cf : Int) := by omega
        have i6 : (n : Int) ≤ (cw : Int) := by omega
        obtain ⟨i0, hi, hz0, hz1, hz2⟩ := info_parts Try.info3
        have hL1 : ∀ zs : List Int, zs.length = n + 1 → ((zs.take n).map (Value.int .i64)).length = n * 1 := fun zs hz => by simp [hz]
        have N1 := news_row (n := n) I4.rf (by omega)
        have lf := I4.rf.len
        have lt := I4.rt.len
        go_cut [4] (fun s4 wN => s4 = .pointer (some ⟨gb, 0, none⟩) ∧ ∃ gn kn, JG w b n ws.length (.slice (some ⟨g1, 0, none⟩) need.length c1) (.slice (some ⟨g2, 0, none⟩) up.length c2) (.slice av ws.length cv) wN gb gf cf gw cw (.slice aA ws.length cA) (.slice aB ws.length cB) gn kn (tab (n + 1) (fun j => (lo (kv ws) j ws.length : Int))) (tab (n + 1) (fun j => (lo (kt ws) j ws.length : Int))) (List.replicate ws.length 0) (List.replicate ws.length 0) ((tab (n + 1) (fun j => (lo (kv ws) j ws.length : Int))).take n ++ (tab (n + 1) (fun j => (lo (kt ws) j ws.length : Int))).take n))
        case first =>
          generalize hfs : tab (n + 1) (fun j => (lo (kv ws) j ws.length : Int)) = fs at *
          generalize hts : tab (n + 1) (fun j => (lo (kt ws) j ws.length : Int)) = ts at *
          clear hfs hts
          go_region_law (first | (refine step_append_lies _ (by rfl) (.tmp 134) (.tmp 138) 22 (by rfl) 0 3 i0 (.int .i64 0) 1 8 Try.underlying22 hi hz0 hz1 hz2 rfl (by decide) _ _ _ (by rfl) hown1 ⟨gw, 0, none⟩ n cw ((ts.take n).map (Value.int .i64)) (by rfl) (hL1 ts lt) (news_row (n := n) (I4.rt.drew.grownN hg1) (by omega)) (ints_oneCell .i64 _) h0 (by unfold maxLen; omega) (by omega) (Nat.zero_le _) _ rfl ?_; intro G2 C2 w2 hown2 hg2 hat2 hlt2; have hJ := JG.start I4 RT2 RX T1 T2 hg1 (by simpa [Value.ownBlock] using hat1) hlt1 hg2 (by simpa [Value.ownBlock] using hat2) (nx := fs.take n ++ ts.take n) (by simpa using hown2); have Q10 := hJ.1.cell 10; simp at Q10; have Q11 := hJ.1.frozen 10) | (refine step_append_lies _ (by rfl) (.tmp 129) (.tmp 133) 22 (by rfl) 0 3 i0 (.int .i64 0) 1 8 Try.underlying22 hi hz0 hz1 hz2 rfl (by decide) (.slice none 0 0) 0 [] (by rfl) (World.ownsRow_nil _ _ _ _) ⟨gf, 0, none⟩ n cf ((fs.take n).map (Value.int .i64)) (by rfl) (hL1 fs lf) (by exact N1) (ints_oneCell .i64 _) h0 (by unfold maxLen; omega) (by omega) (Nat.zero_le _) _ rfl ?_; intro G1 C1 w1 hown1 hg1 hat1 hlt1; simp only [Nat.zero_add, List.nil_append] at hown1 ⊢; have Q4 := (Six.grownD I4.gph hg1).cell 4; simp at Q4))
          all_goals go_wp2
          all_goals
            go_meet
            case rel => exact ⟨rfl, _, _, hJ.2⟩
        case rest =>
          obtain ⟨rfl, gn, kn, J⟩ := hcut
          clear I4 RT2 RX T1 T2 N1 hL1 lf lt i3 i4 i5 i6 B10 c0 c4
          have P10 := J.blk.cell 10
          simp at P10
          have k1 : n + n ≤ kn := by have h := J.rn.2; rcases h with ⟨h, _⟩ | ⟨_, _, _, h, _, _, h5, _⟩ <;> simp at h; omega
          have k2 : (n : Int) ≤ (kn : Int) := by omega
          have k3 : ¬ kn = n := by omega
          have k4 : (n : Int) ≤ (n : Int) + (n : Int) := by omega
          go_upto_region 18 with fail
          go_quiet (fail)
          have J2 : JG w b n ws.length (.slice (some ⟨g1, 0, none⟩) need.length c1) (.slice (some ⟨g2, 0, none⟩) up.length c2) (.slice av ws.length cv) (wc.drewN nq) gb gf cf gw cw (.slice aA ws.length cA) (.slice aB ws.length cB) gn kn (tab (n + 1) (fun j => (lo (kv ws) j ws.length : Int))) (tab (n + 1) (fun j => (lo (kt ws) j ws.length : Int))) (List.replicate ws.length 0) (List.replicate ws.length 0) (tab (n + n) (N3 (kv ws) (kt ws) n ws.length 0)) := by
            rw [← N3_zero]; exact J.drewN nq
          clear J P10 k2 k3 k4
          generalize wc.drewN nq = Z at *
          have P3 := J2.blk.cell 3
          simp at P3
          go_upto_block 4 with fail
          go_cut [4] (fun s4 w5 => s4 = .pointer (some ⟨gb, 0, none⟩) ∧ ∃ tos xs nx, JG w b n ws.length (.slice (some ⟨g1, 0, none⟩) need.length c1) (.slice (some ⟨g2, 0, none⟩) up.length c2) (.slice av ws.length cv) w5 gb gf cf gw cw (.slice aA ws.length cA) (.slice aB ws.length cB) gn kn (tab (n + 1) (fun j => (lo (kv ws) j ws.length : Int))) (tab (n + 1) (fun j => (lo (kt ws) j ws.length : Int))) tos xs nx ∧ Filled (kv ws) ws.length (fun i => (ws.getD i (0, 0, 0)).2.1) ws.length tos ∧ Filled (kt ws) ws.length (fun i => (ws.getD i (0, 0, 0)).2.2) ws.length xs)
          case first =>
            go_wp2
            go_loopw [159] (fun i wr => ∃ k : Nat, k ≤ ws.length ∧ i = .int .i64 k ∧ ∃ tos xs, JG w b n ws.length (.slice (some ⟨g1, 0, none⟩) need.length c1) (.slice (some ⟨g2, 0, none⟩) up.length c2) (.slice av ws.length cv) wr gb gf cf gw cw (.slice aA ws.length cA) (.slice aB ws.length cB) gn kn (tab (n + 1) (fun j => (lo (kv ws) j ws.length : Int))) (tab (n + 1) (fun j => (lo (kt ws) j ws.length : Int))) tos xs (tab (n + n) (N3 (kv ws) (kt ws) n ws.length k)) ∧ Filled (kv ws) ws.length (fun i => (ws.getD i (0, 0, 0)).2.1) k tos ∧ Filled (kt ws) ws.length (fun i => (ws.getD i (0, 0, 0)).2.2) k xs) (fun i _ => ws.length - (intOf i).toNat)
            case atStart => exact ⟨0, Nat.zero_le _, rfl, _, _, J2, ⟨by simp, fun i hi => by omega⟩, ⟨by simp, fun i hi => by omega⟩⟩
            case round =>
              clear J2 P3
              obtain ⟨k, hk, rfl, tos, xs, J, Fo, Fx⟩ := hrel
              by_cases hlt : k < ws.length
              · obtain ⟨g, hav, hgv, x0, x1, x2⟩ := hcells k hlt
                subst hav
                obtain ⟨gt, ct, eA⟩ := J.ro.form (by omega)
                obtain ⟨gx, cx, eB⟩ := J.rx.form (by omega)
                obtain ⟨eA1, eA2⟩ : aA = some ⟨gt, 0, none⟩ ∧ cA = ct := by simp at eA; exact eA
                obtain ⟨eB1, eB2⟩ : aB = some ⟨gx, 0, none⟩ ∧ cB = cx := by simp at eB; exact eB
                subst eA1 eA2 eB1 eB2
                clear eA eB
                obtain ⟨v1, v2, v3, v4⟩ := hv (ws.getD k (0, 0, 0)) (by simp [List.getD, hlt])
                have ek : (ws.getD k (0, 0, 0)).1 = ((kv ws k : Nat) : Int) := by unfold kv; omega
                have et : (ws.getD k (0, 0, 0)).2.1 = ((kt ws k : Nat) : Int) := by unfold kt; omega
                have hgl := own_lt h.rw hgv
                have hgb : g ≠ b := fun e => hwb (e ▸ hgv)
                have y0 : wr.cell? ⟨g, k * 3, none⟩ = some (.int .i64 (kv ws k : Nat)) := by rw [← ek]; exact (J.fr.cell (p := ⟨g, k * 3, none⟩) ⟨hgl, hgb⟩).trans x0
                have y1 : wr.cell? ⟨g, k * 3 + 1, none⟩ = some (.int .i64 (kt ws k : Nat)) := by rw [← et]; exact (J.fr.cell (p := ⟨g, k * 3 + 1, none⟩) ⟨hgl, hgb⟩).trans x1
                have y2 : wr.cell? ⟨g, k * 3 + 2, none⟩ = some (.int .i64 (ws.getD k (0, 0, 0)).2.2) := (J.fr.cell (p := ⟨g, k * 3 + 2, none⟩) ⟨hgl, hgb⟩).trans x2
                have kb : kv ws k < n := by omega
                have tb : kt ws k < n := by omega
                have hp1 := pos_lt (kv ws) ws.length k hlt
                have hp2 := pos_lt (kt ws) ws.length k hlt
                have Fo2 := Fo.step hlt
                have Fx2 := Fx.step hlt
                simp only [et] at Fo2
                have q1 := J.gph.cell 1
                have q5 := J.gph.cell 5
                simp at q1 q5
                have m1 := J.rn.cell (kv ws k) (by omega)
                have m2 := J.rn.cell (n + kt ws k) (by omega)
                rw [tab_get _ _ _ (by omega), N3_at1 _ _ _ _ _ kb] at m1
                rw [tab_get _ _ _ (by omega), N3_at2] at m2
                have m3 := J.rn.frozen (kv ws k)
                have m4 := J.rn.frozen (n + kt ws k)
                have m5 := J.ro.cell (pos (kv ws) ws.length k) hp1
                have m6 := J.rx.cell (pos (kt ws) ws.length k) hp2
                have m7 := J.ro.frozen (pos (kv ws) ws.length k)
                have m8 := J.rx.frozen (pos (kt ws) ws.length k)
                obtain ⟨n1, n2, n3, n4, n5, n6⟩ := J.ne
                have n5' := n5 gt rfl
                have n6' := n6 gx rfl
                obtain ⟨t1, t1'⟩ := J.t1 gt rfl
                have t2 := J.t2 gx rfl
                have t4 := t2.1
                have t5 := t2.2.1
                have t3 : gt ≠ gx := fun e => t2.2.2 (by simp [Value.ownBlock, e])
                have l1 := J.gph.lt
                have l2 := J.rn.lt
                have l3 : gt < wr.heap.size := by omega
                have l4 : gx < wr.heap.size := by omega
                have l5 : gt ≠ wr.heap.size := by omega
                have l6 : gx ≠ wr.heap.size := by omega
                have l7 : gt ≠ gn := by omega
                have l8 : gx ≠ gn := by omega
                have S1 : ∀ o, JG w b n ws.length (.slice (some ⟨g1, 0, none⟩) need.length c1) (.slice (some ⟨g2, 0, none⟩) up.length c2) (.slice (some ⟨g, 0, none⟩) ws.length cv) ((((((wr.setCell ⟨gt, pos (kv ws) ws.length k, none⟩ (.int .i64 (kt ws k : Nat))).setCell ⟨gn, kv ws k, none⟩ (.int .i64 ((pos (kv ws) ws.length k : Nat) + 1))).setCell ⟨gx, pos (kt ws) ws.length k, none⟩ (.int .i64 (ws.getD k (0, 0, 0)).2.2)).setCell ⟨gn, n + kt ws k, none⟩ (.int .i64 ((pos (kt ws) ws.length k : Nat) + 1))).alloc o)) gb gf cf gw cw (.slice (some ⟨gt, 0, none⟩) ws.length cA) (.slice (some ⟨gx, 0, none⟩) ws.length cB) gn kn (tab (n + 1) (fun j => (lo (kv ws) j ws.length : Int))) (tab (n + 1) (fun j => (lo (kt ws) j ws.length : Int))) (tos.set (pos (kv ws) ws.length k) (kt ws k : Nat)) (xs.set (pos (kt ws) ws.length k) (ws.getD k (0, 0, 0)).2.2) (tab (n + n) (N3 (kv ws) (kt ws) n ws.length (k + 1))) := by
                  intro o
                  rw [← N3_step _ _ _ _ _ kb tb]
                  exact ((((J.setO _ _).setN _ _).setX _ _).setN _ _).alloc o
                have HS := Hid.mk (And.intro S1 (And.intro Fo2 Fx2))
                clear S1 Fo2 Fx2 J Fo Fx hcells hv h x0 x1 x2 ek et v1 v2 v3 v4 hwb n5 n6 t2
                generalize (ws.getD k (0, 0, 0)).2.2 = rr at *
                generalize pos (kv ws) ws.length k = P at *
                generalize pos (kt ws) ws.length k = Q at *
                generalize tos.getD P 0 = z1 at *
                generalize xs.getD Q 0 = z2 at *
                generalize kv ws k = x at *
                generalize kt ws k = y at *
                have i1 : (0 : Int) ≤ (x : Int) := by omega
                have i2 : (x : Int) < (n : Int) := by omega
                have i3 : (0 : Int) ≤ (y : Int) := by omega
                have i4 : (y : Int) < (n : Int) := by omega
                have i5 : (0 : Int) ≤ (P : Int) := by omega
                have i6 : (P : Int) < (ws.length : Int) := by omega
                have i7 : (0 : Int) ≤ (Q : Int) := by omega
                have i8 : (Q : Int) < (ws.length : Int) := by omega
                go_wp2
                go_big_region
                all_goals go_wp2
                go_big_region
                all_goals go_wp2
                go_roundw
                case rel => exact ⟨k + 1, by omega, by go_num, _, _, (HS.out.1 _).drew.drew, HS.out.2.1, HS.out.2.2⟩
                case measure => simp [intOf]; omega
              · have e : k = ws.length := by omega
                subst e
                go_wp2
                go_meet
                case rel => exact ⟨rfl, _, _, _, J, Fo, Fx⟩
          case rest =>
            obtain ⟨rfl, tos, xs, nx, J, Fo, Fx⟩ := hcut
            clear J2 P3
            obtain ⟨a0, a1, a2, a3, a4, a5, _⟩ := J.gph.all
            have b4 := J.blk.cell 4
            have b5 := J.blk.cell 5
            have b6 := J.blk.cell 6
            have b7 := J.blk.cell 7
            have b8 := J.blk.cell 8
            have b9 := J.blk.cell 9
            simp at b4 b5 b6 b7 b8 b9
            have f4 := J.blk.frozen 4
            have f5 := J.blk.frozen 5
            have f6 := J.blk.frozen 6
            have f7 := J.blk.frozen 7
            have f8 := J.blk.frozen 8
            have f9 := J.blk.frozen 9
            have r := J.res.all
            have e1 := J.ne.2.2.2.1
            have e2 : b ≠ w.heap.size := by omega
            have e3 : gb ≠ w.heap.size := by have := J.hgb; omega
            go_wp2
            refine bodyPost_ret (v := .agg #[.slice (some ⟨gf, 0, none⟩) (n + 1) cf, .slice aA ws.length cA, .slice (some ⟨g1, 0, none⟩) need.length c1, .slice (some ⟨g2, 0, none⟩) up.length c2, .slice (some ⟨gw, 0, none⟩) (n + 1) cw, .slice aB ws.length cB]) ?_ rfl ?_
            · simp [results, Try.results13, go_sem, r]
            · exact JG.fin hF h J Fo Fx _ _ _ _ _ _ _ _ _ _ _ _

end Go.Proofs.Qxb6003672a

import Derived.Test.Qxb6003672aReset
import Derived.Deep.AppendLies
namespace Go.Proofs.Qxb6003672a
open Go.RowKit
set_option linter.unusedVariables false

/-- the waits' row: three numbers each -/
def wcells (ws : List (Int × Int × Int)) : List Value := ws.flatMap fun t => [.int .i64 t.1, .int .i64 t.2.1, .int .i64 t.2.2]
def Wts (w : World) (v : Value) (ws : List (Int × Int × Int)) : Prop := w.ownsRow 0 51 3 v ws.length (wcells ws)
theorem wts_keep {w w' : World} {e size : Nat} {v : Value} {n : Nat} {xs : List Value} (h : w.ownsRow 0 e size v n xs) (hk : ∀ k, v.ownBlock = some k → w'.heap[k]? = w.heap[k]?) : w'.ownsRow 0 e size v n xs := by
  refine ⟨h.1, ?_⟩
  rcases h.2 with hn | ⟨g, cap, cur, rfl, hb, hgg, rest⟩
  · exact .inl hn
  · exact .inr ⟨g, cap, cur, rfl, hb, (hk g rfl).trans hgg, rest⟩

/-- a row of another element type is not the builder's block -/
theorem Bld.off {w : World} {b : Nat} {n : Int} {vn vu vw : Value} (h : Bld w b n vn vu vw) {e size : Nat} (he : e ≠ 49) {v : Value} {k : Nat} {xs : List Value} (hr : w.ownsRow 0 e size v k xs) : v.ownBlock ≠ some b := by
  intro hv
  rcases hr.2 with ⟨rfl, _⟩ | ⟨g', cap', cur, rfl, _, hg, _⟩
  · simp [Value.ownBlock] at hv
  · simp [Value.ownBlock] at hv
    subst hv
    unfold Bld at h
    rw [hg] at h
    simp at h
    exact he h.2

/-- two rows of different element types lie apart -/
theorem rows_off {w : World} {e e' size size' : Nat} (he : e ≠ e') {v v' : Value} {k k' : Nat} {xs xs' : List Value} (hr : w.ownsRow 0 e size v k xs) (hr' : w.ownsRow 0 e' size' v' k' xs') {g : Nat} (hv : v.ownBlock = some g) : v'.ownBlock ≠ some g := by
  intro hv'
  rcases hr.2 with ⟨rfl, _⟩ | ⟨g1, cap, cur, rfl, _, hg, _⟩
  · simp [Value.ownBlock] at hv
  rcases hr'.2 with ⟨rfl, _⟩ | ⟨g2, cap', cur', rfl, _, hg', _⟩
  · simp [Value.ownBlock] at hv'
  simp [Value.ownBlock] at hv hv'
  subst hv hv'
  rw [hg] at hg'
  simp at hg'
  exact he hg'.2

/-- THE BUILDER's STATE. F: the blocks that are none of its own. -/
structure BV (F : Nat → Prop) (w : World) (b n : Nat) (need up : List Int) (ws : List (Int × Int × Int)) (vn vu vw : Value) : Prop where
  blk : Bld w b n vn vu vw
  rn : Row w vn need.length need
  ru : Row w vu up.length up
  rw : Wts w vw ws
  fb : ¬ F b
  fn : ∀ g, vn.ownBlock = some g → ¬ F g ∧ vu.ownBlock ≠ some g
  fu : ∀ g, vu.ownBlock = some g → ¬ F g
  fw : ∀ g, vw.ownBlock = some g → ¬ F g

def BS (F : Nat → Prop) (w : World) (b n : Nat) (need up : List Int) (ws : List (Int × Int × Int)) : Prop := ∃ vn vu vw, BV F w b n need up ws vn vu vw

theorem new_any (n : Nat) (w : World) (hn : n ≤ 1048576) :
    Calls Try.prog 10 #[.int .i64 n] w fun e w' => ∃ b, e = .returned (.pointer (some ⟨b, 0, none⟩)) ∧ BS (· < w.heap.size) w' b n (List.replicate n 0) (List.replicate n (-1)) [] ∧ Fr (· < w.heap.size) w w' := by
  by_cases h0 : n = 0
  · subst h0
    go_enter Try.func10, Try.ntmps10
    go_wp2_with fail
    have hb : Bld (w.alloc (.cells #[.int .i64 0, nilS, nilS, nilS, nilS, nilS, nilS, nilS, nilS, nilS, nilS] 49)) w.heap.size 0 nilS nilS nilS := heap_alloc_new w _
    refine (reset_zero _ _ hb).mono ?_
    rintro e w' ⟨rfl, h1, h2⟩
    go_wp2
    go_ret
    refine ⟨_, rfl, ⟨nilS, nilS, nilS, h1, World.ownsRow_nil _ _ _ _, World.ownsRow_nil _ _ _ _, World.ownsRow_nil _ _ _ _, by simp, by simp [Value.ownBlock], by simp [Value.ownBlock], by simp [Value.ownBlock]⟩, ?_⟩
    exact ((Fr.refl _ _).alloc (fun _ h => h) _).trans (h2.mono (fun k hk => by omega))
  · go_enter Try.func10, Try.ntmps10
    go_wp2_with fail
    have hb : Bld (w.alloc (.cells #[.int .i64 0, nilS, nilS, nilS, nilS, nilS, nilS, nilS, nilS, nilS, nilS] 49)) w.heap.size 0 nilS nilS nilS := heap_alloc_new w _
    refine (reset_pos _ n _ hb (by omega) hn).mono ?_
    rintro e w' ⟨rfl, g1, c1, g2, c2, h1, h2, h3, h4, h5, h6⟩
    simp only [World.size_alloc] at h4 h6
    go_wp2
    go_ret
    refine ⟨_, rfl, ⟨_, _, nilS, h1, by simpa using h2, by simpa using h3, World.ownsRow_nil _ _ _ _, by simp, ?_, ?_, by simp [Value.ownBlock]⟩, ?_⟩
    · simp [Value.ownBlock]; omega
    · simp [Value.ownBlock]; omega
    · exact ((Fr.refl _ _).alloc (fun _ h => h) _).trans (h6.mono (fun k hk => by omega))

theorem grown_blk {w0 w1 : World} {o : Obj} {row : Option Nat} (hg : (w0.alloc o).grownBy w1 row) {k : Nat} (hk : k < w0.heap.size) (hne : row ≠ some k) : w1.heap[k]? = w0.heap[k]? :=
  (hg.block k (by simp; omega) (fun e => hne e.symm)).trans (Below.heap_alloc _ _ _ hk)

theorem own_lt {w : World} {e size : Nat} {v : Value} {k : Nat} {xs : List Value} (hr : w.ownsRow 0 e size v k xs) {g : Nat} (hv : v.ownBlock = some g) : g < w.heap.size := (hr.lt g hv).2

section
variable {F : Nat → Prop} {w0 w1 : World} {b n : Nat} {need up : List Int} {ws : List (Int × Int × Int)} {vn vu vw : Value}

/-- 'b.need[u]++' -/
theorem BV.inc {g1 c1 : Nat} (h : BV F w0 b n need up ws (.slice (some ⟨g1, 0, none⟩) need.length c1) vu vw) (u : Nat) (y : Int) :
    BV F (w0.setCell ⟨g1, u, none⟩ (.int .i64 y)) b n (need.set u y) up ws (.slice (some ⟨g1, 0, none⟩) need.length c1) vu vw ∧ Fr F w0 (w0.setCell ⟨g1, u, none⟩ (.int .i64 y)) := by
  have hne := h.blk.ne h.rn
  have hu := (h.fn g1 rfl).2
  have hw := rows_off (e' := 51) (by decide) h.rn h.rw (g := g1) rfl
  refine ⟨⟨h.blk.keep (Below.heap_setCell _ _ _ _ (by simp; omega)), by rw [List.length_set]; exact h.rn.set u y, h.ru.setOther _ hu, ?_, h.fb, h.fn, h.fu, h.fw⟩, (Fr.refl _ _).setCell (h.fn g1 rfl).1 _⟩
  exact wts_keep h.rw fun k hk => Below.heap_setCell _ _ _ _ (fun e => by simp at e; subst e; exact hw hk)

/-- 'b.need = append(b.need, x)' -/
theorem BV.pushN {o : Obj} {G C : Nat} {x : Int} (h : BV F w0 b n need up ws vn vu vw) (hF : ∀ k, F k → k < w0.heap.size)
    (hown : w1.ownsRow 0 3 1 (.slice (some ⟨G, 0, none⟩) (need.length + 1) C) (need.length + 1) (need.map (Value.int .i64) ++ [.int .i64 x])) (hg : (w0.alloc o).grownBy w1 vn.ownBlock) (hat : vn.ownBlock = some G ∨ G = w0.heap.size + 1) :
    Bld w1 b n vn vu vw ∧ BV F (w1.setCell ⟨b, 1, none⟩ (.slice (some ⟨G, 0, none⟩) (need.length + 1) C)) b n (need ++ [x]) up ws (.slice (some ⟨G, 0, none⟩) (need.length + 1) C) vu vw ∧
      Fr F w0 (w1.setCell ⟨b, 1, none⟩ (.slice (some ⟨G, 0, none⟩) (need.length + 1) C)) := by
  have hb := h.blk.lt
  have nb := h.blk.off (by decide) h.rn
  have ub := h.blk.off (by decide) h.ru
  have wb := h.blk.off (by decide) h.rw
  have B1 : Bld w1 b n vn vu vw := h.blk.keep (grown_blk hg hb nb)
  have R1 : Row w1 (.slice (some ⟨G, 0, none⟩) (need.length + 1) C) (need.length + 1) (need ++ [x]) := by unfold Row; simpa using hown
  have hGb : G ≠ b := B1.ne R1
  have hk : ∀ k, vu.ownBlock = some k → w1.heap[k]? = w0.heap[k]? := fun k e => grown_blk hg (own_lt h.ru e) (fun e' => (h.fn k e').2 e)
  have hw : ∀ k, vw.ownBlock = some k → w1.heap[k]? = w0.heap[k]? := fun k e => grown_blk hg (own_lt h.rw e) (fun e' => rows_off (by decide) h.rn h.rw e' e)
  have hset : ∀ k, k ≠ b → (w1.setCell ⟨b, 1, none⟩ (.slice (some ⟨G, 0, none⟩) (need.length + 1) C)).heap[k]? = w1.heap[k]? := fun k e => Below.heap_setCell _ _ _ _ e
  have FR : Fr F w0 w1 := ((Fr.refl _ _).alloc hF _).grown hg (fun k e => by have := hF k e; simp; omega) (fun k e => (h.fn k e).1)
  have hGF : ¬ F G := by
    rcases hat with e | e
    · exact (h.fn G e).1
    · intro f; have := hF G f; omega
  have hGu : vu.ownBlock ≠ some G := by
    rcases hat with e | e
    · exact (h.fn G e).2
    · intro f; have := own_lt h.ru f; omega
  refine ⟨B1, ⟨B1.set1 _, by simpa using R1.setOther (p := ⟨b, 1, none⟩) _ (by simpa [Value.ownBlock] using hGb), (h.ru.keep hk).setOther _ ub, ?_, h.fb, ?_, h.fu, h.fw⟩, FR.setCell h.fb _⟩
  · exact wts_keep h.rw fun k e => (hset k (fun e' => wb (e' ▸ e))).trans (hw k e)
  · intro g e
    simp [Value.ownBlock] at e
    subst e
    exact ⟨hGF, hGu⟩

/-- 'b.up = append(b.up, x)' -/
theorem BV.pushU {o : Obj} {G C : Nat} {x : Int} (h : BV F w0 b n need up ws vn vu vw) (hF : ∀ k, F k → k < w0.heap.size)
    (hown : w1.ownsRow 0 3 1 (.slice (some ⟨G, 0, none⟩) (up.length + 1) C) (up.length + 1) (up.map (Value.int .i64) ++ [.int .i64 x])) (hg : (w0.alloc o).grownBy w1 vu.ownBlock) (hat : vu.ownBlock = some G ∨ G = w0.heap.size + 1) :
    Bld w1 b n vn vu vw ∧ BV F (w1.setCell ⟨b, 2, none⟩ (.slice (some ⟨G, 0, none⟩) (up.length + 1) C)) b n need (up ++ [x]) ws vn (.slice (some ⟨G, 0, none⟩) (up.length + 1) C) vw ∧
      Fr F w0 (w1.setCell ⟨b, 2, none⟩ (.slice (some ⟨G, 0, none⟩) (up.length + 1) C)) := by
  have hb := h.blk.lt
  have nb := h.blk.off (by decide) h.rn
  have ub := h.blk.off (by decide) h.ru
  have wb := h.blk.off (by decide) h.rw
  have B1 : Bld w1 b n vn vu vw := h.blk.keep (grown_blk hg hb ub)
  have R1 : Row w1 (.slice (some ⟨G, 0, none⟩) (up.length + 1) C) (up.length + 1) (up ++ [x]) := by unfold Row; simpa using hown
  have hGb : G ≠ b := B1.ne R1
  have hk : ∀ k, vn.ownBlock = some k → w1.heap[k]? = w0.heap[k]? := fun k e => grown_blk hg (own_lt h.rn e) (fun e' => (h.fn k e).2 e')
  have hw : ∀ k, vw.ownBlock = some k → w1.heap[k]? = w0.heap[k]? := fun k e => grown_blk hg (own_lt h.rw e) (fun e' => rows_off (by decide) h.ru h.rw e' e)
  have hset : ∀ k, k ≠ b → (w1.setCell ⟨b, 2, none⟩ (.slice (some ⟨G, 0, none⟩) (up.length + 1) C)).heap[k]? = w1.heap[k]? := fun k e => Below.heap_setCell _ _ _ _ e
  have FR : Fr F w0 w1 := ((Fr.refl _ _).alloc hF _).grown hg (fun k e => by have := hF k e; simp; omega) (fun k e => h.fu k e)
  have hGF : ¬ F G := by
    rcases hat with e | e
    · exact h.fu G e
    · intro f; have := hF G f; omega
  refine ⟨B1, ⟨B1.set2 _, (h.rn.keep hk).setOther _ nb, by simpa using R1.setOther (p := ⟨b, 2, none⟩) _ (by simpa [Value.ownBlock] using hGb), ?_, h.fb, ?_, ?_, h.fw⟩, FR.setCell h.fb _⟩
  · exact wts_keep h.rw fun k e => (hset k (fun e' => wb (e' ▸ e))).trans (hw k e)
  · intro g e
    refine ⟨(h.fn g e).1, ?_⟩
    simp [Value.ownBlock]
    rintro rfl
    rcases hat with e' | e'
    · exact (h.fn G e).2 e'
    · have := own_lt h.rn e; omega
  · intro g e
    simp [Value.ownBlock] at e
    subst e
    exact hGF
end

/-- the one new cell -/
theorem one_new (w : World) (x : Value) (t : TypeId) (H : Nat) (hH : w.heap.size = H) : ∀ j u, [x][j]? = some u → (w.alloc (.cells #[x] t)).cell? ((⟨H, 0, none⟩ : Addr).add j) = some u := by
  subst hH
  exact cell_one_new w x t

set_option maxHeartbeats 800000 in
/-- Requirement, under a process -/
theorem req_lt (F : Nat → Prop) (b n : Nat) (need up : List Int) (ws : List (Int × Int × Int)) (u : Nat) (x : Int) (w : World) (hF : ∀ k, F k → k < w.heap.size) (h : BS F w b n need up ws)
    (hu : u < n) (hL : n ≤ need.length) (hb1 : need.length ≤ 1048576) (hb2 : up.length ≤ 1048576) (hx : 0 ≤ need.getD u 0 ∧ need.getD u 0 ≤ 1048576) :
    Calls Try.prog 27 #[.pointer (some ⟨b, 0, none⟩), .int .i64 u, .int .i64 x] w fun e w' => e = .returned (.int .i64 need.length) ∧ BS F w' b n (need.set u (need.getD u 0 + 1) ++ [x]) (up ++ [(u : Int)]) ws ∧ Fr F w w' := by
  obtain ⟨i0, hi, hz0, hz1, hz2⟩ := info_parts Try.info3
  obtain ⟨vn, vu, vw, h⟩ := h
  obtain ⟨g1, c1, rfl⟩ := h.rn.form (by omega)
  have hne := h.blk.ne h.rn
  have d0 := h.blk.cell 0
  have d1 := h.blk.cell 1
  simp at d0 d1
  have m1 := h.rn.cell u (by omega)
  have m2 := h.rn.frozen u
  obtain ⟨hx0, hx1⟩ := hx
  generalize hy : need.getD u 0 = y at *
  have HY : Hid (need.getD u 0 = y) := hy
  clear hy
  go_enter Try.func27, Try.ntmps27
  have o1 : ∀ o, ((w.setCell ⟨g1, u, none⟩ (.int .i64 (y + 1))).alloc o).ownsRow 0 3 1 (.slice (some ⟨g1, 0, none⟩) need.length c1) need.length ((need.set u (y + 1)).map (Value.int .i64)) := fun o => (h.rn.set u (y + 1)).alloc o
  go_wp2_with (at_builtin; refine wpList_append_lies _ rfl (.tmp 26) (.tmp 28) 22 rfl 0 3 i0 (.int .i64 0) 1 8 Try.underlying22 hi hz0 hz1 hz2 rfl (by decide) _ _ _ rfl (o1 _) ⟨w.heap.size, 0, none⟩ 1 1 [.int .i64 x] rfl rfl ?c1 ?c2 (by decide) ?c3 ?c4 (Nat.zero_le _) (w.heap.size + 1) ?c5 ?_)
  case c1 => exact one_new _ _ _ _ (by simp)
  case c2 => exact ints_oneCell .i64 [x]
  case c3 => unfold maxLen; omega
  case c4 => omega
  case c5 => simp
  intro G1 C1 w1 hown hgrow hat hlt
  have hi1 := h.inc u (y + 1)
  have hF1 : ∀ k, F k → k < (w.setCell ⟨g1, u, none⟩ (.int .i64 (y + 1))).heap.size := fun k e => by simpa using hF k e
  have hl1 : (need.set u (y + 1)).length = need.length := by simp
  have hp := hi1.1.pushN (x := x) (G := G1) (C := C1) hF1 (by rw [hl1, List.map_set]; exact hown) hgrow (by simpa using hat)
  rw [hl1] at hp
  obtain ⟨B1, V1, FR1⟩ := hp
  have d1 := B1.cell 1
  have d2 := B1.cell 2
  simp at d1 d2
  have e1 := B1.frozen 1
  have o2 : ∀ o, ((w1.setCell ⟨b, 1, none⟩ (.slice (some ⟨G1, 0, none⟩) (need.length + 1) C1)).alloc o).ownsRow 0 3 1 vu up.length (up.map (Value.int .i64)) := fun o => V1.ru.alloc o
  have FRa : Hid (Fr F w (w1.setCell ⟨b, 1, none⟩ (.slice (some ⟨G1, 0, none⟩) (need.length + 1) C1))) := hi1.2.trans FR1
  have hs1 := FRa.out.size
  simp only [World.size_setCell] at hs1
  clear hown hgrow hat d0 m1 m2 o1 hF1 hl1 FR1
  have VV : Hid (BV F (w1.setCell ⟨b, 1, none⟩ (.slice (some ⟨G1, 0, none⟩) (need.length + 1) C1)) b n (need.set u (y + 1) ++ [x]) up ws (.slice (some ⟨G1, 0, none⟩) (need.length + 1) C1) vu vw) := V1
  clear V1 hi1
  go_wp2_with (at_builtin; refine wpList_append_lies _ rfl (.tmp 36) (.tmp 38) 22 rfl 0 3 i0 (.int .i64 0) 1 8 Try.underlying22 hi hz0 hz1 hz2 rfl (by decide) _ _ _ rfl (o2 _) ⟨w1.heap.size, 0, none⟩ 1 1 [.int .i64 u] rfl rfl ?b1 ?b2 (by decide) ?b3 ?b4 (Nat.zero_le _) (w1.heap.size + 1) ?b5 ?_)
  case b1 => exact one_new _ _ _ _ (by simp)
  case b2 => exact ints_oneCell .i64 [_]
  case b3 => unfold maxLen; omega
  case b4 => omega
  case b5 => simp
  intro G2 C2 w2 hown hgrow hat hlt2
  have hF2 : ∀ k, F k → k < (w1.setCell ⟨b, 1, none⟩ (.slice (some ⟨G1, 0, none⟩) (need.length + 1) C1)).heap.size := fun k e => by have := hF k e; simp; omega
  have hp := VV.out.pushU (x := (u : Int)) (G := G2) (C := C2) hF2 hown hgrow (by simpa using hat)
  obtain ⟨B2, V2, FR2⟩ := hp
  have FRb : Hid (Fr F w (w2.setCell ⟨b, 2, none⟩ (.slice (some ⟨G2, 0, none⟩) (up.length + 1) C2))) := FRa.out.trans FR2
  have VV2 : Hid (BS F (w2.setCell ⟨b, 2, none⟩ (.slice (some ⟨G2, 0, none⟩) (up.length + 1) C2)) b n (need.set u (y + 1) ++ [x]) (up ++ [(u : Int)]) ws) := ⟨_, _, _, V2⟩
  have d1' := B2.cell 1
  have d2' := B2.cell 2
  simp at d1' d2'
  have e2' := B2.frozen 2
  clear hown hgrow hat V2 FR2 hF2 VV FRa d1 d2 e1 o2 B1
  go_wp2
  go_ret
  exact ⟨by simp, VV2.out, FRb.out⟩

set_option maxHeartbeats 800000 in
/-- Requirement, under an earlier requirement -/
theorem req_ge (F : Nat → Prop) (b n : Nat) (need up : List Int) (ws : List (Int × Int × Int)) (u : Nat) (x : Int) (w : World) (hF : ∀ k, F k → k < w.heap.size) (h : BS F w b n need up ws)
    (hu : n ≤ u) (hb1 : need.length ≤ 1048576) (hb2 : up.length ≤ 1048576) :
    Calls Try.prog 27 #[.pointer (some ⟨b, 0, none⟩), .int .i64 u, .int .i64 x] w fun e w' => e = .returned (.int .i64 need.length) ∧ BS F w' b n (need ++ [x]) (up ++ [(u : Int)]) ws ∧ Fr F w w' := by
  obtain ⟨i0, hi, hz0, hz1, hz2⟩ := info_parts Try.info3
  obtain ⟨vn, vu, vw, h⟩ := h
  have d0 := h.blk.cell 0
  have d1 := h.blk.cell 1
  simp at d0 d1
  go_enter Try.func27, Try.ntmps27
  have o1 : ∀ o, (w.alloc o).ownsRow 0 3 1 vn need.length (need.map (Value.int .i64)) := fun o => h.rn.alloc o
  go_wp2_with (at_builtin; refine wpList_append_lies _ rfl (.tmp 26) (.tmp 28) 22 rfl 0 3 i0 (.int .i64 0) 1 8 Try.underlying22 hi hz0 hz1 hz2 rfl (by decide) _ _ _ rfl (o1 _) ⟨w.heap.size, 0, none⟩ 1 1 [.int .i64 x] rfl rfl ?c1 ?c2 (by decide) ?c3 ?c4 (Nat.zero_le _) (w.heap.size + 1) ?c5 ?_)
  case c1 => exact one_new _ _ _ _ (by simp)
  case c2 => exact ints_oneCell .i64 [x]
  case c3 => unfold maxLen; omega
  case c4 => omega
  case c5 => simp
  intro G1 C1 w1 hown hgrow hat hlt
  have hp := h.pushN (x := x) (G := G1) (C := C1) hF hown hgrow (by simpa using hat)
  obtain ⟨B1, V1, FR1⟩ := hp
  have d1 := B1.cell 1
  have d2 := B1.cell 2
  simp at d1 d2
  have e1 := B1.frozen 1
  have o2 : ∀ o, ((w1.setCell ⟨b, 1, none⟩ (.slice (some ⟨G1, 0, none⟩) (need.length + 1) C1)).alloc o).ownsRow 0 3 1 vu up.length (up.map (Value.int .i64)) := fun o => V1.ru.alloc o
  have FRa : Hid (Fr F w (w1.setCell ⟨b, 1, none⟩ (.slice (some ⟨G1, 0, none⟩) (need.length + 1) C1))) := FR1
  have hs1 := FRa.out.size
  simp only [World.size_setCell] at hs1
  clear hown hgrow hat d0 o1 FR1
  have VV : Hid (BV F (w1.setCell ⟨b, 1, none⟩ (.slice (some ⟨G1, 0, none⟩) (need.length + 1) C1)) b n (need ++ [x]) up ws (.slice (some ⟨G1, 0, none⟩) (need.length + 1) C1) vu vw) := V1
  clear V1
  go_wp2_with (at_builtin; refine wpList_append_lies _ rfl (.tmp 36) (.tmp 38) 22 rfl 0 3 i0 (.int .i64 0) 1 8 Try.underlying22 hi hz0 hz1 hz2 rfl (by decide) _ _ _ rfl (o2 _) ⟨w1.heap.size, 0, none⟩ 1 1 [.int .i64 u] rfl rfl ?b1 ?b2 (by decide) ?b3 ?b4 (Nat.zero_le _) (w1.heap.size + 1) ?b5 ?_)
  case b1 => exact one_new _ _ _ _ (by simp)
  case b2 => exact ints_oneCell .i64 [_]
  case b3 => unfold maxLen; omega
  case b4 => omega
  case b5 => simp
  intro G2 C2 w2 hown hgrow hat hlt2
  have hF2 : ∀ k, F k → k < (w1.setCell ⟨b, 1, none⟩ (.slice (some ⟨G1, 0, none⟩) (need.length + 1) C1)).heap.size := fun k e => by have := hF k e; simp; omega
  have hp := VV.out.pushU (x := (u : Int)) (G := G2) (C := C2) hF2 hown hgrow (by simpa using hat)
  obtain ⟨B2, V2, FR2⟩ := hp
  have FRb : Hid (Fr F w (w2.setCell ⟨b, 2, none⟩ (.slice (some ⟨G2, 0, none⟩) (up.length + 1) C2))) := FRa.out.trans FR2
  have VV2 : Hid (BS F (w2.setCell ⟨b, 2, none⟩ (.slice (some ⟨G2, 0, none⟩) (up.length + 1) C2)) b n (need ++ [x]) (up ++ [(u : Int)]) ws) := ⟨_, _, _, V2⟩
  have d1' := B2.cell 1
  have d2' := B2.cell 2
  simp at d1' d2'
  have e2' := B2.frozen 2
  clear hown hgrow hat V2 FR2 hF2 VV FRa d1 d2 e1 o2 B1
  go_wp2
  go_ret
  exact ⟨by simp, VV2.out, FRb.out⟩

end Go.Proofs.Qxb6003672a

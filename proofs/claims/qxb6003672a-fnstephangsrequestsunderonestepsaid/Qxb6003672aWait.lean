import Derived.Test.Qxb6003672aReq
namespace Go.Proofs.Qxb6003672a
open Go.RowKit
set_option linter.unusedVariables false

theorem Try.info51 : (Try.prog.info? 51).map (fun i => (i.zero, i.size, i.bytes)) = some (some (.agg #[.int .i64 0, .int .i64 0, .int .i64 0]), 3, 24) := by kernel_rfl

theorem three_new (w : World) (x y z : Value) (t : TypeId) (H : Nat) (hH : w.heap.size = H) : ∀ j u, [x, y, z][j]? = some u → (w.alloc (.cells #[x, y, z] t)).cell? ((⟨H, 0, none⟩ : Addr).add j) = some u := by
  subst hH
  exact World.news_of_block (heap_alloc_new w _)

theorem wcells_snoc (ws : List (Int × Int × Int)) (a b c : Int) : wcells (ws ++ [(a, b, c)]) = wcells ws ++ [.int .i64 a, .int .i64 b, .int .i64 c] := by simp [wcells]

section
variable {F : Nat → Prop} {w0 w1 : World} {b n : Nat} {need up : List Int} {ws : List (Int × Int × Int)} {vn vu vw : Value}
/-- 'b.waits = append(b.waits, wait{x, y, z})' -/
theorem BV.pushW {o : Obj} {G C : Nat} {x y z : Int} (h : BV F w0 b n need up ws vn vu vw) (hF : ∀ k, F k → k < w0.heap.size)
    (hown : w1.ownsRow 0 51 3 (.slice (some ⟨G, 0, none⟩) (ws.length + 1) C) (ws.length + 1) (wcells ws ++ [.int .i64 x, .int .i64 y, .int .i64 z])) (hg : (w0.alloc o).grownBy w1 vw.ownBlock) (hat : vw.ownBlock = some G ∨ G = w0.heap.size + 1) :
    Bld w1 b n vn vu vw ∧ BV F (w1.setCell ⟨b, 3, none⟩ (.slice (some ⟨G, 0, none⟩) (ws.length + 1) C)) b n need up (ws ++ [(x, y, z)]) vn vu (.slice (some ⟨G, 0, none⟩) (ws.length + 1) C) ∧
      Fr F w0 (w1.setCell ⟨b, 3, none⟩ (.slice (some ⟨G, 0, none⟩) (ws.length + 1) C)) := by
  have hb := h.blk.lt
  have nb := h.blk.off (by decide) h.rn
  have ub := h.blk.off (by decide) h.ru
  have wb := h.blk.off (by decide) h.rw
  have B1 : Bld w1 b n vn vu vw := h.blk.keep (grown_blk hg hb wb)
  have hGb := B1.off (by decide) hown
  have hn : ∀ k, vn.ownBlock = some k → w1.heap[k]? = w0.heap[k]? := fun k e => grown_blk hg (own_lt h.rn e) (fun e' => rows_off (by decide) h.rn h.rw e e')
  have hk : ∀ k, vu.ownBlock = some k → w1.heap[k]? = w0.heap[k]? := fun k e => grown_blk hg (own_lt h.ru e) (fun e' => rows_off (by decide) h.ru h.rw e e')
  have hset : ∀ k, k ≠ b → (w1.setCell ⟨b, 3, none⟩ (.slice (some ⟨G, 0, none⟩) (ws.length + 1) C)).heap[k]? = w1.heap[k]? := fun k e => Below.heap_setCell _ _ _ _ e
  have FR : Fr F w0 w1 := ((Fr.refl _ _).alloc hF _).grown hg (fun k e => by have := hF k e; simp; omega) (fun k e => h.fw k e)
  have hGF : ¬ F G := by
    rcases hat with e | e
    · exact h.fw G e
    · intro f; have := hF G f; omega
  refine ⟨B1, ⟨B1.set3 _, (h.rn.keep hn).setOther _ nb, (h.ru.keep hk).setOther _ ub, ?_, h.fb, h.fn, h.fu, ?_⟩, FR.setCell h.fb _⟩
  · unfold Wts
    rw [wcells_snoc, List.length_append]
    exact wts_keep hown fun k e => hset k (fun e' => hGb (e' ▸ e))
  · intro g e
    simp [Value.ownBlock] at e
    subst e
    exact hGF
end

set_option maxHeartbeats 800000 in
/-- Wait, a part of a process's own requirement -/
theorem wait_lt (F : Nat → Prop) (b n : Nat) (need up : List Int) (ws : List (Int × Int × Int)) (v t : Int) (u : Nat) (w : World) (hF : ∀ k, F k → k < w.heap.size) (h : BS F w b n need up ws)
    (hu : u < n) (hL : n ≤ need.length) (hb1 : need.length ≤ 1048576) (hb2 : ws.length ≤ 1048576) (hx : 0 ≤ need.getD u 0 ∧ need.getD u 0 ≤ 1048576) :
    Calls Try.prog 11 #[.pointer (some ⟨b, 0, none⟩), .int .i64 v, .int .i64 t, .int .i64 u] w fun e w' => e = .returned (.tuple #[]) ∧ BS F w' b n (need.set u (need.getD u 0 + 1)) up (ws ++ [(v, t, (u : Int))]) ∧ Fr F w w' := by
  obtain ⟨i0, hi, hz0, hz1, hz2⟩ := info_parts Try.info51
  obtain ⟨vn, vu, vw, h⟩ := h
  obtain ⟨g1, c1, rfl⟩ := h.rn.form (by omega)
  have hne := h.blk.ne h.rn
  have d0 := h.blk.cell 0
  have d1 := h.blk.cell 1
  have d3 := h.blk.cell 3
  simp at d0 d1 d3
  have m1 := h.rn.cell u (by omega)
  have m2 := h.rn.frozen u
  obtain ⟨hx0, hx1⟩ := hx
  generalize hy : need.getD u 0 = y at *
  have HY : Hid (need.getD u 0 = y) := hy
  clear hy
  have hi1 := h.inc u (y + 1)
  have o1 : ∀ o, ((w.setCell ⟨g1, u, none⟩ (.int .i64 (y + 1))).alloc o).ownsRow 0 51 3 vw ws.length (wcells ws) := fun o => World.ownsRow.alloc hi1.1.rw o
  have HI : Hid (BV F (w.setCell ⟨g1, u, none⟩ (.int .i64 (y + 1))) b n (need.set u (y + 1)) up ws (.slice (some ⟨g1, 0, none⟩) need.length c1) vu vw ∧ Fr F w (w.setCell ⟨g1, u, none⟩ (.int .i64 (y + 1)))) := hi1
  clear hi1
  go_enter Try.func11, Try.ntmps11
  go_wp2_with (at_builtin; refine wpList_append_lies _ rfl (.tmp 27) (.tmp 32) 47 rfl 0 51 i0 (.agg #[.int .i64 0, .int .i64 0, .int .i64 0]) 3 24 Try.underlying47 hi hz0 hz1 hz2 rfl (by decide) _ _ _ rfl (o1 _) ⟨w.heap.size, 0, none⟩ 1 1 [.int .i64 v, .int .i64 t, .int .i64 u] rfl rfl ?c1 ?c2 (by decide) ?c3 ?c4 (Nat.zero_le _) (w.heap.size + 1) ?c5 ?_)
  case c1 => exact three_new _ _ _ _ _ _ (by simp)
  case c2 => exact ints_oneCell .i64 [_, _, _]
  case c3 => unfold maxLen; omega
  case c4 => omega
  case c5 => simp
  intro G1 C1 w1 hown hgrow hat hlt
  have hF1 : ∀ k, F k → k < (w.setCell ⟨g1, u, none⟩ (.int .i64 (y + 1))).heap.size := fun k e => by simpa using hF k e
  have hp := HI.out.1.pushW (x := v) (y := t) (z := (u : Int)) (G := G1) (C := C1) hF1 hown hgrow (by simpa using hat)
  obtain ⟨B1, V1, FR1⟩ := hp
  have FRa : Hid (Fr F w (w1.setCell ⟨b, 3, none⟩ (.slice (some ⟨G1, 0, none⟩) (ws.length + 1) C1))) := HI.out.2.trans FR1
  have VV : Hid (BS F (w1.setCell ⟨b, 3, none⟩ (.slice (some ⟨G1, 0, none⟩) (ws.length + 1) C1)) b n (need.set u (y + 1)) up (ws ++ [(v, t, (u : Int))])) := ⟨_, _, _, V1⟩
  have d1 := B1.cell 3
  simp at d1
  have e1 := B1.frozen 3
  clear hown hgrow hat d0 m1 m2 o1 hF1 FR1 V1 HI B1
  go_wp2
  go_end0
  exact ⟨rfl, VV.out, FRa.out⟩

set_option maxHeartbeats 800000 in
/-- Wait, a part of another requirement -/
theorem wait_ge (F : Nat → Prop) (b n : Nat) (need up : List Int) (ws : List (Int × Int × Int)) (v t : Int) (u : Nat) (w : World) (hF : ∀ k, F k → k < w.heap.size) (h : BS F w b n need up ws)
    (hu : n ≤ u) (hb2 : ws.length ≤ 1048576) :
    Calls Try.prog 11 #[.pointer (some ⟨b, 0, none⟩), .int .i64 v, .int .i64 t, .int .i64 u] w fun e w' => e = .returned (.tuple #[]) ∧ BS F w' b n need up (ws ++ [(v, t, (u : Int))]) ∧ Fr F w w' := by
  obtain ⟨i0, hi, hz0, hz1, hz2⟩ := info_parts Try.info51
  obtain ⟨vn, vu, vw, h⟩ := h
  have d0 := h.blk.cell 0
  have d3 := h.blk.cell 3
  simp at d0 d3
  have o1 : ∀ o, (w.alloc o).ownsRow 0 51 3 vw ws.length (wcells ws) := fun o => World.ownsRow.alloc h.rw o
  have HI : Hid (BV F w b n need up ws vn vu vw) := h
  clear h
  go_enter Try.func11, Try.ntmps11
  go_wp2_with (at_builtin; refine wpList_append_lies _ rfl (.tmp 27) (.tmp 32) 47 rfl 0 51 i0 (.agg #[.int .i64 0, .int .i64 0, .int .i64 0]) 3 24 Try.underlying47 hi hz0 hz1 hz2 rfl (by decide) _ _ _ rfl (o1 _) ⟨w.heap.size, 0, none⟩ 1 1 [.int .i64 v, .int .i64 t, .int .i64 u] rfl rfl ?c1 ?c2 (by decide) ?c3 ?c4 (Nat.zero_le _) (w.heap.size + 1) ?c5 ?_)
  case c1 => exact three_new _ _ _ _ _ _ (by simp)
  case c2 => exact ints_oneCell .i64 [_, _, _]
  case c3 => unfold maxLen; omega
  case c4 => omega
  case c5 => simp
  intro G1 C1 w1 hown hgrow hat hlt
  have hp := HI.out.pushW (x := v) (y := t) (z := (u : Int)) (G := G1) (C := C1) hF hown hgrow (by simpa using hat)
  obtain ⟨B1, V1, FR1⟩ := hp
  have FRa : Hid (Fr F w (w1.setCell ⟨b, 3, none⟩ (.slice (some ⟨G1, 0, none⟩) (ws.length + 1) C1))) := FR1
  have VV : Hid (BS F (w1.setCell ⟨b, 3, none⟩ (.slice (some ⟨G1, 0, none⟩) (ws.length + 1) C1)) b n need up (ws ++ [(v, t, (u : Int))])) := ⟨_, _, _, V1⟩
  have d1 := B1.cell 3
  simp at d1
  have e1 := B1.frozen 3
  clear hown hgrow hat d0 o1 FR1 V1 HI B1
  go_wp2
  go_end0
  exact ⟨rfl, VV.out, FRa.out⟩

end Go.Proofs.Qxb6003672a

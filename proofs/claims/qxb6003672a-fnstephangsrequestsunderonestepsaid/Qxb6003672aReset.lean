import Derived.Test.Qxb6003672aGrow
import Derived.BigRegion
import Derived.RegionTactic
namespace Go.Proofs.Qxb6003672a
open Go.RowKit
set_option linter.unusedVariables false

abbrev nilS : Value := .slice none 0 0

/-- the builder's block, whole; its graph and its scratch are as they were at the start -/
def Bld (w : World) (b : Nat) (n : Int) (vn vu vw : Value) : Prop :=
  w.heap[b]? = some (.cells #[.int .i64 n, vn, vu, vw, nilS, nilS, nilS, nilS, nilS, nilS, nilS] 49 (0, 0))

section
variable {w w' : World} {b : Nat} {n : Int} {vn vu vw : Value}
theorem Bld.cell (h : Bld w b n vn vu vw) (j : Nat) : w.cell? ⟨b, j, none⟩ = [Value.int .i64 n, vn, vu, vw, nilS, nilS, nilS, nilS, nilS, nilS, nilS][j]? := by
  rw [cell_of_row w b j _ 49 (0, 0) h]
  simp
theorem Bld.frozen (h : Bld w b n vn vu vw) (j : Nat) : w.frozen? ⟨b, j, none⟩ = false := frozen_of_row w b j _ 49 h
theorem Bld.keep (h : Bld w b n vn vu vw) (hk : w'.heap[b]? = w.heap[b]?) : Bld w' b n vn vu vw := hk.trans h
theorem Bld.lt (h : Bld w b n vn vu vw) : b < w.heap.size := (Array.getElem?_eq_some_iff.1 h).1
theorem Bld.set0 (h : Bld w b n vn vu vw) (m : Int) : Bld (w.setCell ⟨b, 0, none⟩ (.int .i64 m)) b m vn vu vw := heap_setCell_same w b 0 _ 49 _ h
theorem Bld.set1 (h : Bld w b n vn vu vw) (v : Value) : Bld (w.setCell ⟨b, 1, none⟩ v) b n v vu vw := heap_setCell_same w b 1 _ 49 _ h
theorem Bld.set2 (h : Bld w b n vn vu vw) (v : Value) : Bld (w.setCell ⟨b, 2, none⟩ v) b n vn v vw := heap_setCell_same w b 2 _ 49 _ h
theorem Bld.set3 (h : Bld w b n vn vu vw) (v : Value) : Bld (w.setCell ⟨b, 3, none⟩ v) b n vn vu v := heap_setCell_same w b 3 _ 49 _ h
theorem Bld.ne {g k cap : Nat} {zs : List Int} (h : Bld w b n vn vu vw) (hr : Row w (.slice (some ⟨g, 0, none⟩) k cap) k zs) : g ≠ b := by
  rintro rfl
  rcases hr.2 with ⟨h', _⟩ | ⟨g', cap', cur, h', _, hg, _⟩
  · simp at h'
  · simp only [Value.slice.injEq, Option.some.injEq, Addr.mk.injEq, and_true, true_and] at h'
    obtain ⟨rfl, rfl⟩ := h'
    unfold Bld at h
    rw [hg] at h
    simp at h
end

theorem fill_set (a c : Int) (k n : Nat) (h : k < n) : (List.replicate k a ++ List.replicate (n - k) c).set k a = List.replicate (k + 1) a ++ List.replicate (n - (k + 1)) c := by
  rw [List.set_append_right _ _ (by simp), show n - k = (n - (k + 1)) + 1 by omega, List.replicate_succ]
  simp [List.replicate_succ', List.append_assoc]

set_option maxHeartbeats 400000 in
theorem reset_zero (b : Nat) (w : World) (hb : Bld w b 0 nilS nilS nilS) :
    Calls Try.prog 20 #[.pointer (some ⟨b, 0, none⟩), .int .i64 0] w fun e w' => e = .returned (.tuple #[]) ∧ Bld w' b 0 nilS nilS nilS ∧ Fr (fun k => k ≠ b) w w' := by
  have c0 := hb.cell 0; have c1 := hb.cell 1; have c2 := hb.cell 2; have c3 := hb.cell 3
  simp at c0 c1 c2 c3
  have f0 := hb.frozen 0; have f1 := hb.frozen 1; have f2 := hb.frozen 2; have f3 := hb.frozen 3
  go_enter Try.func20, Try.ntmps20
  go_wp2_with (go_at_call 30; refine (grow_zero _).mono ?_; rintro e w' ⟨rfl, rfl⟩)
  refine wp_loop_rounds 1 ?_
  rw [rounds_succ]
  go_wp2
  go_end0
  refine ⟨rfl, (((hb.set0 0).set1 _).set2 _).set3 _, ?_⟩
  exact ((((Fr.refl _ _).setCell (by simp) _).setCell (by simp) _).setCell (by simp) _).setCell (by simp) _

set_option maxHeartbeats 400000 in
theorem reset_pos (b n : Nat) (w : World) (hb : Bld w b 0 nilS nilS nilS) (h0 : 0 < n) (hn : n ≤ 1048576) :
    Calls Try.prog 20 #[.pointer (some ⟨b, 0, none⟩), .int .i64 n] w fun e w' => e = .returned (.tuple #[]) ∧ ∃ g1 c1 g2 c2, Bld w' b n (.slice (some ⟨g1, 0, none⟩) n c1) (.slice (some ⟨g2, 0, none⟩) n c2) nilS ∧
      Row w' (.slice (some ⟨g1, 0, none⟩) n c1) n (List.replicate n 0) ∧ Row w' (.slice (some ⟨g2, 0, none⟩) n c2) n (List.replicate n (-1)) ∧ w.heap.size ≤ g1 ∧ g1 < g2 ∧ Fr (fun k => k < w.heap.size ∧ k ≠ b) w w' := by
  have c0 := hb.cell 0; have c1 := hb.cell 1; have c2 := hb.cell 2; have c3 := hb.cell 3
  simp at c0 c1 c2 c3
  have f0 := hb.frozen 0; have f1 := hb.frozen 1; have f2 := hb.frozen 2; have f3 := hb.frozen 3
  go_enter Try.func20, Try.ntmps20
  go_wp2_with fail
  have b1 := hb.set0 n
  refine (grow_pos n _ h0 hn).mono ?_
  rintro e w1 ⟨g1, k1, hk1, rfl, hr1, hs1, hf1⟩
  simp only [World.size_setCell] at hs1 hf1
  have hlt := hb.lt
  have b2 := (b1.keep (hf1.block b hlt)).set1 (.slice (some ⟨g1, 0, none⟩) n k1)
  have r1 := (hr1 n hk1)
  have ne1 := (b1.keep (hf1.block b hlt)).ne r1
  have r1' := r1.setOther (p := ⟨b, 1, none⟩) (.slice (some ⟨g1, 0, none⟩) n k1) (by simp [Value.ownBlock]; exact ne1)
  have d0 := (b1.keep (hf1.block b hlt)).cell 1
  have d1 := (b1.keep (hf1.block b hlt)).cell 2
  have d2 := (b1.keep (hf1.block b hlt)).cell 3
  simp at d0 d1 d2
  have e0 := (b1.keep (hf1.block b hlt)).frozen 1
  have e1 := (b1.keep (hf1.block b hlt)).frozen 2
  have fr1 : Fr (fun k => k < w.heap.size ∧ k ≠ b) w (w1.setCell ⟨b, 1, none⟩ (.slice (some ⟨g1, 0, none⟩) n k1)) :=
    (((Fr.refl _ _).setCell (by simp) _).trans (hf1.mono (fun k h => h.1))).setCell (by simp) _
  clear c0 c1 c2 c3 f0 f1 f2 f3
  go_wp2_with fail
  refine (grow_pos n _ h0 hn).mono ?_
  rintro e w2 ⟨g2, k2, hk2, rfl, hr2, hs2, hf2⟩
  simp only [World.size_setCell] at hs2 hf2
  have hlt1 := b2.lt
  simp only [World.size_setCell] at hlt1
  have b3 := b2.keep (hf2.block b hlt1)
  have hg1 := r1.lt
  have q1 := r1'.fr hf2 (by simp [Value.ownBlock]; exact hg1)
  have q2 := hr2 n hk2
  have ne2 := b3.ne q2
  have fr2 : Fr (fun k => k < w.heap.size ∧ k ≠ b) w w2 := fr1.trans (hf2.mono (fun k h => by have := hf1.size; simp at this; omega))
  have hg12 : g1 < g2 := by omega
  clear r1 r1' hr1 hr2 hf1 hf2 b1 b2 d0 d1 d2 e0 e1 fr1 hb hs2 hlt1
  have b4 := b3.set2 (.slice (some ⟨g2, 0, none⟩) n k2)
  have p1 := q1.setOther (p := ⟨b, 2, none⟩) (.slice (some ⟨g2, 0, none⟩) n k2) (by simp [Value.ownBlock]; exact ne1)
  have p2 := q2.setOther (p := ⟨b, 2, none⟩) (.slice (some ⟨g2, 0, none⟩) n k2) (by simp [Value.ownBlock]; exact ne2)
  have fr3 : Fr (fun k => k < w.heap.size ∧ k ≠ b) w (w2.setCell ⟨b, 2, none⟩ (.slice (some ⟨g2, 0, none⟩) n k2)) := fr2.setCell (by simp) _
  have d2 := b3.cell 2
  simp at d2
  have e2 := b3.frozen 2
  clear q1 q2 fr2 b3
  go_wp2
  go_loopw [34] (fun i wr => ∃ k : Nat, k ≤ n ∧ i = .int .i64 k ∧ Bld wr b n (.slice (some ⟨g1, 0, none⟩) n k1) (.slice (some ⟨g2, 0, none⟩) n k2) nilS ∧
      Row wr (.slice (some ⟨g1, 0, none⟩) n k1) n (List.replicate n 0) ∧ Row wr (.slice (some ⟨g2, 0, none⟩) n k2) n (List.replicate k (-1) ++ List.replicate (n - k) 0) ∧ Fr (fun k => k < w.heap.size ∧ k ≠ b) w wr)
    (fun i _ => n - (intOf i).toNat)
  case atStart => exact ⟨0, Nat.zero_le _, rfl, b4, p1, by simpa using p2, fr3⟩
  case round =>
    clear b4 p1 p2 fr3 d2 e2
    obtain ⟨k, hk, rfl, B, R1, R2, FR⟩ := hrel
    have d1 := B.cell 1
    have d2 := B.cell 2
    have d3 := B.cell 3
    simp at d1 d2 d3
    have e3 := B.frozen 3
    by_cases hlt : k < n
    · have m1 := R1.cell k hlt
      have m2 := R2.cell k hlt
      have m3 := R1.frozen k
      have m4 := R2.frozen k
      have S1 : ∀ w', Row w' (.slice (some ⟨g1, 0, none⟩) n k1) n (List.replicate n 0) → Row (w'.setCell ⟨g1, k, none⟩ (.int .i64 0)) (.slice (some ⟨g1, 0, none⟩) n k1) n (List.replicate n 0) := fun w' h => by
        have := h.set k 0
        rwa [List.set_replicate_self] at this
      have S2 : ∀ w', Row w' (.slice (some ⟨g2, 0, none⟩) n k2) n (List.replicate k (-1) ++ List.replicate (n - k) 0) → Row (w'.setCell ⟨g2, k, none⟩ (.int .i64 (-1))) (.slice (some ⟨g2, 0, none⟩) n k2) n (List.replicate (k + 1) (-1) ++ List.replicate (n - (k + 1)) 0) := fun w' h => by
        have := h.set k (-1)
        rwa [fill_set _ _ _ _ hlt] at this
      have Hd : Hid (Bld wr b n (.slice (some ⟨g1, 0, none⟩) n k1) (.slice (some ⟨g2, 0, none⟩) n k2) nilS ∧ Row wr (.slice (some ⟨g1, 0, none⟩) n k1) n (List.replicate n 0) ∧ Row wr (.slice (some ⟨g2, 0, none⟩) n k2) n (List.replicate k (-1) ++ List.replicate (n - k) 0) ∧ Fr (fun k => k < w.heap.size ∧ k ≠ b) w wr) := ⟨B, R1, R2, FR⟩
      clear B R1 R2 FR
      go_wp2
      go_region
      all_goals
        go_wp2
        go_roundw
        case rel =>
          obtain ⟨B, R1, R2, FR⟩ := Hd.out
          refine ⟨k + 1, by omega, by go_num, ?_, ?_, ?_, ?_⟩
          · exact B.keep (by rw [heap_drew, Below.heap_setCell _ _ _ _ (by simp; omega), Below.heap_setCell _ _ _ _ (by simp; omega)])
          · exact ((S1 _ R1).setOther (p := ⟨g2, k, none⟩) _ (by simp [Value.ownBlock]; omega)).drew
          · exact (S2 _ (R2.setOther (p := ⟨g1, k, none⟩) _ (by simp [Value.ownBlock]; omega))).drew
          · exact ((FR.setCell (p := ⟨g1, k, none⟩) (by simp; omega) _).setCell (p := ⟨g2, k, none⟩) (by simp; omega) _).drew
        case measure => simp [intOf]; omega
    · have : k = n := by omega
      subst this
      go_wp2
      go_end0
      exact ⟨rfl, g1, k1, g2, k2, B.set3 _, R1.setOther _ (by simp [Value.ownBlock]; omega), by simpa using R2.setOther (p := ⟨b, 3, none⟩) _ (by simp [Value.ownBlock]; omega), hs1, hg12, FR.setCell (by simp) _⟩

end Go.Proofs.Qxb6003672a

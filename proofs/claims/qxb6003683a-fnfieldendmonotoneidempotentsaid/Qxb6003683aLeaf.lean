import Derived.Test.Qxb6003683aProg
import Derived.WalkKit
import Derived.WalkSpells
import Derived.Laws.CopyOwn
import Derived.Lib.SliceRun
namespace Go.Proofs.Qxb6003683a
open Go.RowKit
set_option linter.unusedVariables false

theorem Try.info5 : (Try.prog.info? 5).map (fun i => (i.zero, i.size, i.bytes)) = some (some (.int .u8 0), 1, 1) := by kernel_rfl
theorem Try.size5 : (Try.prog.info? 5).map (·.size) = some 1 := by kernel_rfl

/-- Blocks in F are as they were; nothing is undone. -/
structure Fr (F : Nat → Prop) (w w' : World) : Prop where
  os : w'.os = w.os
  tape : w'.tape = w.tape
  output : w'.output = w.output
  size : w.heap.size ≤ w'.heap.size
  block : ∀ k, F k → w'.heap[k]? = w.heap[k]?

theorem Fr.refl (F : Nat → Prop) (w : World) : Fr F w w := ⟨rfl, rfl, rfl, Nat.le_refl _, fun _ _ => rfl⟩
theorem Fr.trans {F : Nat → Prop} {a b c : World} (h : Fr F a b) (k : Fr F b c) : Fr F a c :=
  ⟨k.os.trans h.os, k.tape.trans h.tape, k.output.trans h.output, Nat.le_trans h.size k.size, fun i hi => (k.block i hi).trans (h.block i hi)⟩
theorem Fr.mono {F G : Nat → Prop} {a b : World} (h : Fr F a b) (hG : ∀ k, G k → F k) : Fr G a b := ⟨h.os, h.tape, h.output, h.size, fun k hk => h.block k (hG k hk)⟩
theorem Fr.drew {F : Nat → Prop} {a w : World} (h : Fr F a w) : Fr F a w.drew := ⟨h.os, h.tape, h.output, h.size, h.block⟩
theorem Fr.alloc {F : Nat → Prop} {a w : World} (h : Fr F a w) (hF : ∀ k, F k → k < w.heap.size) (o : Obj) : Fr F a (w.alloc o) :=
  h.trans ⟨rfl, rfl, rfl, by simp, fun k hk => Below.heap_alloc _ _ _ (hF k hk)⟩
theorem Fr.setCell {F : Nat → Prop} {a w : World} (h : Fr F a w) {p : Addr} (hp : ¬ F p.block) (u : Value) : Fr F a (w.setCell p u) :=
  h.trans ⟨rfl, rfl, rfl, by simp [World.setCell], fun k hk => Below.heap_setCell _ _ _ _ (fun e => hp (e ▸ hk))⟩
theorem Fr.grown {F : Nat → Prop} {a w w' : World} {row : Option Nat} (h : Fr F a w) (hg : w.grownBy w' row) (hF : ∀ k, F k → k < w.heap.size) (hr : ∀ k, row = some k → ¬ F k) : Fr F a w' :=
  h.trans ⟨hg.os, hg.tape, hg.output, hg.size, fun k hk => hg.block k (hF k hk) (fun e => hr k e.symm hk)⟩
theorem Fr.cell {F : Nat → Prop} {w w' : World} (h : Fr F w w') {p : Addr} (hp : F p.block) : w'.cell? p = w.cell? p := World.cell?_of_block (w := w) (h.block p.block hp)
theorem Fr.frozen {F : Nat → Prop} {w w' : World} (h : Fr F w w') {p : Addr} (hp : F p.block) : w'.frozen? p = w.frozen? p := World.frozen?_of_block (w := w) (h.block p.block hp)
theorem Fr.below {B : Nat} {w w' : World} (h : Fr (· < B) w w') : Below B w w' := ⟨h.os, h.tape, h.output, h.size, h.block⟩


theorem Hid.mk {p : Prop} (h : p) : Hid p := h
theorem bytes7 (a1 : Option Addr) (l1 c1 : Nat) (n m : Int) (w : World) (h1 : l1 ≤ 9223372036854775807) :
    Calls Try.prog 7 #[.slice a1 l1 c1, .int .i64 n, .int .i64 m] w fun e w' => (∃ b, e = .returned (.bool b)) ∧ w = w' := by
  go_enter Try.func7, Try.ntmps7
  go_wp2
  all_goals (go_ret; exact ⟨⟨_, rfl⟩, rfl⟩)

theorem clone_nil (w : World) : Calls Try.prog 8 #[.slice none 0 0] w fun e w' => e = .returned (.slice none 0 0) ∧ w = w' := by
  have he := fun (w : World) => Lib.run_eql_slice_nil (P := Try.prog) w 22 5 none 0 0 0 0 Try.underlying22
  go_enter Try.func8, Try.ntmps8
  go_wp2
  go_ret
  exact ⟨rfl, rfl⟩

theorem made_list (z : Value) (n : Nat) : (madeCells #[z] n).toList = List.replicate n z := toList_madeCells_one z n

set_option maxHeartbeats 400000 in
theorem clone_some (x : Addr) (len cap : Nat) (zs : List Int) (w : World) (hl : len ≤ cap) (hm : cap ≤ maxLen) (hz : zs.length = cap) (hb : len ≤ 140737488351232)
    (hc : ∀ i, i < zs.length → w.cell? (x.add i) = some (.int .u8 (zs.getD i 0))) :
    Calls Try.prog 8 #[.slice (some x) len cap] w fun e w' => e = .returned (.slice (some ⟨w.heap.size, 0, none⟩) len len) ∧ w'.ownsRow 0 5 1 (.slice (some ⟨w.heap.size, 0, none⟩) len len) len ((zs.take len).map (Value.int .u8)) ∧ Fr (· < w.heap.size) w w' := by
  obtain ⟨i0, hi, hz0, hz1, hz2⟩ := info_parts Try.info5
  unfold maxLen at hm
  have he := fun (w : World) => Lib.run_eql_slice_nil (P := Try.prog) w 22 5 (some x) len cap 0 0 Try.underlying22
  have hmk : ∀ w : World, (Instr.makeSlice 22 (.int .i64 (len : Int)) (.int .i64 (len : Int))).run Try.prog w = .ok (.slice (some ⟨w.heap.size, 0, none⟩) len len) (w.alloc (.cells (madeCells #[Value.int .u8 0] len) 5)) := by
    intro w
    have := run_make (P := Try.prog) w 22 5 i0 (.int .u8 0) Try.underlying22 hi hz0 .i64 .i64 len len (by omega) (by omega) (by rw [hz2]; omega) (by omega)
    simpa [hz1, Value.cells] using this
  have hn : ((zs.take len).map (Value.int .u8)).length = len := by simp; omega
  have hsrc : ∀ j v, ((zs.take len).map (Value.int .u8))[j]? = some v → (w.alloc (.cells (madeCells #[Value.int .u8 0] len) 5)).cell? (x.add j) = some v := by
    intro j v hv
    have hj : j < len := by have := (List.getElem?_eq_some_iff.1 hv).1; omega
    have h1 := hc j (by omega)
    have h2 : ((zs.take len).map (Value.int .u8))[j]? = some (.int .u8 (zs.getD j 0)) := by simp [hj, List.getD, show j < zs.length by omega]
    rw [h2] at hv
    rw [Lib.cell?_alloc_some _ h1, hv]
  have hcp := fun ty => run_copy_row (P := Try.prog) (w.alloc (.cells (madeCells #[Value.int .u8 0] len) 5)) 22 22 ty 5 w.heap.size 0 len len x len cap (madeCells #[Value.int .u8 0] len) 5 ((zs.take len).map (Value.int .u8)) Try.underlying22 Try.size5 (heap_alloc_new w _) (by rw [hn]; exact (Nat.min_self _).symm) hsrc (by rw [hn]; simp [madeCells]) (ints_oneCell .u8 _)
  have hrow := setRow_heap (w.alloc (.cells (madeCells #[Value.int .u8 0] len) 5)) w.heap.size (madeCells #[Value.int .u8 0] len) ((madeCells #[Value.int .u8 0] len).toList.take 0 ++ ((zs.take len).map (Value.int .u8) ++ (madeCells #[Value.int .u8 0] len).toList.drop (0 + ((zs.take len).map (Value.int .u8)).length))).toArray 5 (0, 0) (heap_alloc_new w _)
  have hfr : Fr (· < w.heap.size) w ((w.alloc (.cells (madeCells #[Value.int .u8 0] len) 5)).setRow w.heap.size ((madeCells #[Value.int .u8 0] len).toList.take 0 ++ ((zs.take len).map (Value.int .u8) ++ (madeCells #[Value.int .u8 0] len).toList.drop (0 + ((zs.take len).map (Value.int .u8)).length))).toArray) :=
    ((Fr.refl _ w).alloc (fun _ e => e) _).trans ⟨rfl, rfl, rfl, by simp [World.setRow], fun k hk => setRow_other _ _ _ _ (by omega)⟩
  have hd : (madeCells #[Value.int .u8 0] len).toList.drop (0 + ((zs.take len).map (Value.int .u8)).length) = [] := by
    rw [hn, made_list]; simp
  rw [hd, List.take_zero, List.nil_append, List.append_nil] at hrow hfr
  simp only [hd, List.take_zero, List.nil_append, List.append_nil] at hcp
  generalize hcs : (zs.take len).map (Value.int .u8) = cs at *
  generalize hW : (w.alloc (.cells (madeCells #[Value.int .u8 0] len) 5)).setRow w.heap.size cs.toArray = W at *
  have HR : Hid (W.ownsRow 0 5 1 (.slice (some ⟨w.heap.size, 0, none⟩) len len) len cs ∧ Fr (· < w.heap.size) w W) :=
    ⟨⟨by omega, .inr ⟨w.heap.size, len, cs.toArray, rfl, Nat.zero_le _, hrow, Nat.le_refl _, by unfold maxLen; omega, by simp; omega, by simp [List.take_of_length_le, hn]⟩⟩, hfr⟩
  clear hrow hfr hsrc hd hW hcs hc
  go_enter Try.func8, Try.ntmps8
  go_wp2
  go_ret
  exact ⟨rfl, HR.out.1, HR.out.2⟩

end Go.Proofs.Qxb6003683a

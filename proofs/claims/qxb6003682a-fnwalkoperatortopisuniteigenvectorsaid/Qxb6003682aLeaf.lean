import Derived.Test.Qxb6003682aProg
import Derived.WalkKit
import Derived.WalkSpells
import Derived.Laws.CopyOwn
import Derived.Lib.SliceRun
namespace Go.Proofs.Qxb6003682a
open Go.RowKit
set_option linter.unusedVariables false

/-- Blocks in F are as they were; nothing is undone. -/
structure Fr (F : Nat → Prop) (w w' : World) : Prop where
  os : w'.os = w.os
  tape : w'.tape = w.tape
  output : w'.output = w.output
  size : w.heap.size ≤ w'.heap.size
  block : ∀ k, F k → w'.heap[k]? = w.heap[k]?

theorem Fr.refl (F : Nat → Prop) (w : World) : Fr F w w := ⟨rfl, rfl, rfl, Nat.le_refl _, fun _ _ => rfl⟩
theorem Fr.trans {F : Nat → Prop} {a b c : World} (h : Fr F a b) (k : Fr F b c) : Fr F a c :=
  ⟨k.os.trans h.os, k.tape.trans h.tape, k.output.trans h.output, Nat.le_trans h.size k.size, fun i hi => (k.block i hi).trans (h.block i hi)⟩
theorem Fr.mono {F G : Nat → Prop} {a b : World} (h : Fr F a b) (hG : ∀ k, G k → F k) : Fr G a b := ⟨h.os, h.tape, h.output, h.size, fun k hk => h.block k (hG k hk)⟩
theorem Fr.drew {F : Nat → Prop} {a w : World} (h : Fr F a w) : Fr F a w.drew := ⟨h.os, h.tape, h.output, h.size, h.block⟩
theorem Fr.alloc {F : Nat → Prop} {a w : World} (h : Fr F a w) (hF : ∀ k, F k → k < w.heap.size) (o : Obj) : Fr F a (w.alloc o) :=
  h.trans ⟨rfl, rfl, rfl, by simp, fun k hk => Below.heap_alloc _ _ _ (hF k hk)⟩
theorem Fr.setCell {F : Nat → Prop} {a w : World} (h : Fr F a w) {p : Addr} (hp : ¬ F p.block) (u : Value) : Fr F a (w.setCell p u) :=
  h.trans ⟨rfl, rfl, rfl, by simp [World.setCell], fun k hk => Below.heap_setCell _ _ _ _ (fun e => hp (e ▸ hk))⟩
theorem Fr.grown {F : Nat → Prop} {a w w' : World} {row : Option Nat} (h : Fr F a w) (hg : w.grownBy w' row) (hF : ∀ k, F k → k < w.heap.size) (hr : ∀ k, row = some k → ¬ F k) : Fr F a w' :=
  h.trans ⟨hg.os, hg.tape, hg.output, hg.size, fun k hk => hg.block k (hF k hk) (fun e => hr k e.symm hk)⟩
theorem Fr.cell {F : Nat → Prop} {w w' : World} (h : Fr F w w') {p : Addr} (hp : F p.block) : w'.cell? p = w.cell? p := World.cell?_of_block (w := w) (h.block p.block hp)
theorem Fr.frozen {F : Nat → Prop} {w w' : World} (h : Fr F w w') {p : Addr} (hp : F p.block) : w'.frozen? p = w.frozen? p := World.frozen?_of_block (w := w) (h.block p.block hp)
theorem Fr.below {B : Nat} {w w' : World} (h : Fr (· < B) w w') : Below B w w' := ⟨h.os, h.tape, h.output, h.size, h.block⟩


/-- a float is stored as any cell is -/
theorem run_store_float (P : Program) (w : World) (a : Addr) (m : Mode) (k : FloatKind) (n : Nat) : (store a (.float k n) m).run P w = stored P w a (.float k n) m := run_store P w a _ m rfl

theorem Hid.mk {p : Prop} (h : p) : Hid p := h

/-- a slice that came in: nil, or cells V behind its address -/
def Cel (w : World) (a : Option Addr) (len cap : Nat) (V : Nat → Value) : Prop := (a = none ∧ len = 0 ∧ cap = 0) ∨ ∃ x, a = some x ∧ ∀ i, i < len → w.cell? (x.add i) = some (V i)
theorem Cel.get {w : World} {a : Option Addr} {len cap : Nat} {V : Nat → Value} (h : Cel w a len cap V) : ∀ i, i < len → ∃ x, a = some x ∧ w.cell? (x.add i) = some (V i) := by
  intro i hi
  rcases h with ⟨_, rfl, _⟩ | ⟨x, rfl, hc⟩
  · omega
  · exact ⟨x, rfl, hc i hi⟩
theorem Cel.fr {F : Nat → Prop} {w w' : World} {a : Option Addr} {len cap : Nat} {V : Nat → Value} (h : Cel w a len cap V) (hf : Fr F w w') (hF : ∀ k, k < w.heap.size → F k) : Cel w' a len cap V := by
  rcases h with h | ⟨x, rfl, hc⟩
  · exact .inl h
  · exact .inr ⟨x, rfl, fun i hi => (hf.cell (p := x.add i) (hF _ (World.block_lt_of_cell? _ _ (hc i hi)))).trans (hc i hi)⟩

/-- a slice of the call's own: the elements V -/
def Own (w : World) (e : TypeId) (a : Option Addr) (len cap : Nat) (V : Nat → Value) : Prop := w.ownsRow 0 e 1 (.slice a len cap) len ((List.range len).map V)
section
variable {w w' : World} {e : TypeId} {a : Option Addr} {len cap : Nat} {V : Nat → Value}
theorem own_lt {size : Nat} {v : Value} {k : Nat} {xs : List Value} (hr : w.ownsRow 0 e size v k xs) {g : Nat} (hv : v.ownBlock = some g) : g < w.heap.size := (hr.lt g hv).2
theorem own_keep {size : Nat} {v : Value} {n : Nat} {xs : List Value} (h : w.ownsRow 0 e size v n xs) (hk : ∀ k, v.ownBlock = some k → w'.heap[k]? = w.heap[k]?) : w'.ownsRow 0 e size v n xs := by
  refine ⟨h.1, ?_⟩
  rcases h.2 with hn | ⟨g, cap, cur, rfl, hb, hgg, rest⟩
  · exact .inl hn
  · exact .inr ⟨g, cap, cur, rfl, hb, (hk g rfl).trans hgg, rest⟩
theorem Own.get (h : Own w e a len cap V) : ∀ i, i < len → ∃ g, a = some ⟨g, 0, none⟩ ∧ (Value.slice a len cap).ownBlock = some g ∧ w.cell? ⟨g, i, none⟩ = some (V i) ∧ w.frozen? ⟨g, i, none⟩ = false := by
  intro i hi
  rcases h.2 with ⟨_, h0⟩ | ⟨g, c, cur, e1, _⟩
  · omega
  · simp at e1
    obtain ⟨rfl, rfl⟩ := e1
    refine ⟨g, rfl, rfl, ?_, World.ownsRow.frozenAt h i⟩
    rw [World.ownsRow.cellAt h i (by omega)]
    simp [hi]
theorem Own.cel (h : Own w e a len cap V) : Cel w a len cap V := by
  rcases h.2 with ⟨h1, _⟩ | ⟨g, c, cur, e1, _⟩
  · simp at h1; exact .inl h1
  · simp at e1
    obtain ⟨rfl, rfl⟩ := e1
    refine .inr ⟨⟨g, 0, none⟩, rfl, fun i hi => ?_⟩
    rw [Addr.add_lit, Nat.zero_add, World.ownsRow.cellAt h i (by omega)]
    simp [hi]
theorem Own.fr {F : Nat → Prop} (h : Own w e a len cap V) (hf : Fr F w w') (hk : ∀ k, (Value.slice a len cap).ownBlock = some k → F k) : Own w' e a len cap V := own_keep h fun k e => hf.block k (hk k e)
theorem Own.frN (h : Own w e a len cap V) (hf : Fr (· < w.heap.size) w w') : Own w' e a len cap V := h.fr hf fun k e => own_lt h e
theorem Own.set {g : Nat} {V' : Nat → Value} (h : Own w e (some ⟨g, 0, none⟩) len cap V) (j : Nat) (u : Value) (hV : ∀ i, i < len → V' i = if i = j then u else V i) : Own (w.setCell ⟨g, j, none⟩ u) e (some ⟨g, 0, none⟩) len cap V' := by
  have := (World.ownsRow.stored h j u).1
  unfold Own
  have e1 : ((List.range len).map V).set j u = (List.range len).map V' := by
    apply List.ext_getElem
    · simp
    · intro i h1 h2
      simp at h1
      simp only [List.getElem_set, List.getElem_map, List.getElem_range]
      rw [hV i h1]
      by_cases e : j = i
      · simp [e]
      · simp [e, Ne.symm e]
  rw [← e1]
  exact this
theorem Own.setOther (h : Own w e a len cap V) {p : Addr} (u : Value) (hk : (Value.slice a len cap).ownBlock ≠ some p.block) : Own (w.setCell p u) e a len cap V :=
  own_keep h fun k e => Below.heap_setCell _ _ _ _ (fun e' => hk (by rw [e, e']))
theorem Own.congr {V' : Nat → Value} (h : Own w e a len cap V) (hV : ∀ i, i < len → V' i = V i) : Own w e a len cap V' := by
  have e1 : (List.range len).map V' = (List.range len).map V := List.map_congr_left fun i hi => hV i (by simpa using hi)
  unfold Own
  rw [e1]
  exact h
end

theorem Try.info2 : (Try.prog.info? 2).map (fun i => (i.zero, i.size, i.bytes)) = some (some (.int .i64 0), 1, 8) := by kernel_rfl
theorem Try.size2 : (Try.prog.info? 2).map (·.size) = some 1 := by kernel_rfl

theorem cloneI64_nil (w : World) : Calls Try.prog 8 #[.slice none 0 0] w fun e w' => e = .returned (.slice none 0 0) ∧ w = w' := by
  have he := fun (w : World) => Lib.run_eql_slice_nil (P := Try.prog) w 22 2 none 0 0 0 0 Try.underlying22
  go_enter Try.func8, Try.ntmps8
  go_wp2
  go_ret
  exact ⟨rfl, rfl⟩

set_option maxHeartbeats 400000 in
theorem cloneI64_some (x : Addr) (len cap : Nat) (V : Nat → Value) (w : World) (hb : len ≤ 1048576) (hc : ∀ i, i < len → w.cell? (x.add i) = some (V i)) (h1 : ∀ i, (V i).oneCell' = true) :
    Calls Try.prog 8 #[.slice (some x) len cap] w fun e w' => e = .returned (.slice (some ⟨w.heap.size, 0, none⟩) len len) ∧ w'.ownsRow 0 2 1 (.slice (some ⟨w.heap.size, 0, none⟩) len len) len ((List.range len).map V) ∧ Fr (· < w.heap.size) w w' := by
  obtain ⟨i0, hi, hz0, hz1, hz2⟩ := info_parts Try.info2
  have he := fun (w : World) => Lib.run_eql_slice_nil (P := Try.prog) w 22 2 (some x) len cap 0 0 Try.underlying22
  have hmk : ∀ w : World, (Instr.makeSlice 22 (.int .i64 (len : Int)) (.int .i64 (len : Int))).run Try.prog w = .ok (.slice (some ⟨w.heap.size, 0, none⟩) len len) (w.alloc (.cells (madeCells #[.int .i64 0] len) 2)) := by
    intro w
    have := run_make (P := Try.prog) w 22 2 i0 (.int .i64 0) Try.underlying22 hi hz0 .i64 .i64 len len (by omega) (by omega) (by rw [hz2]; omega) (by omega)
    simpa [hz1, Value.cells] using this
  have hn : ((List.range len).map V).length = len := by simp
  have hsrc : ∀ j v, ((List.range len).map V)[j]? = some v → (w.alloc (.cells (madeCells #[.int .i64 0] len) 2)).cell? (x.add j) = some v := by
    intro j v hv
    have hj : j < len := by have := (List.getElem?_eq_some_iff.1 hv).1; omega
    have h2 : ((List.range len).map V)[j]? = some (V j) := by simp [hj]
    rw [h2] at hv
    rw [Lib.cell?_alloc_some _ (hc j hj), hv]
  have h1c : ∀ v ∈ (List.range len).map V, v.oneCell' = true := by
    intro v hv
    obtain ⟨i, _, rfl⟩ := List.mem_map.1 hv
    exact h1 i
  have hcp := fun ty => run_copy_row (P := Try.prog) (w.alloc (.cells (madeCells #[.int .i64 0] len) 2)) 22 22 ty 2 w.heap.size 0 len len x len cap (madeCells #[.int .i64 0] len) 2 ((List.range len).map V) Try.underlying22 Try.size2 (heap_alloc_new w _) (by rw [hn]; exact (Nat.min_self _).symm) hsrc (by rw [hn]; simp [madeCells]) h1c
  have hrow := setRow_heap (w.alloc (.cells (madeCells #[.int .i64 0] len) 2)) w.heap.size (madeCells #[.int .i64 0] len) ((madeCells #[.int .i64 0] len).toList.take 0 ++ ((List.range len).map V ++ (madeCells #[.int .i64 0] len).toList.drop (0 + ((List.range len).map V).length))).toArray 2 (0, 0) (heap_alloc_new w _)
  have hfr : Fr (· < w.heap.size) w ((w.alloc (.cells (madeCells #[.int .i64 0] len) 2)).setRow w.heap.size ((madeCells #[.int .i64 0] len).toList.take 0 ++ ((List.range len).map V ++ (madeCells #[.int .i64 0] len).toList.drop (0 + ((List.range len).map V).length))).toArray) :=
    ((Fr.refl _ w).alloc (fun _ e => e) _).trans ⟨rfl, rfl, rfl, by simp [World.setRow], fun k hk => setRow_other _ _ _ _ (by omega)⟩
  have hd : (madeCells #[.int .i64 0] len).toList.drop (0 + ((List.range len).map V).length) = [] := by
    rw [hn, toList_madeCells_one]; simp
  rw [hd, List.take_zero, List.nil_append, List.append_nil] at hrow hfr
  simp only [hd, List.take_zero, List.nil_append, List.append_nil] at hcp
  generalize hcs : (List.range len).map V = cs at *
  generalize hW : (w.alloc (.cells (madeCells #[.int .i64 0] len) 2)).setRow w.heap.size cs.toArray = W at *
  have HR : Hid (W.ownsRow 0 2 1 (.slice (some ⟨w.heap.size, 0, none⟩) len len) len cs ∧ Fr (· < w.heap.size) w W) :=
    ⟨⟨by omega, .inr ⟨w.heap.size, len, cs.toArray, rfl, Nat.zero_le _, hrow, Nat.le_refl _, by unfold maxLen; omega, by simp; omega, by simp [List.take_of_length_le, hn]⟩⟩, hfr⟩
  clear hrow hfr hsrc hd hW hcs hc h1 h1c
  go_enter Try.func8, Try.ntmps8
  go_wp2
  go_ret
  exact ⟨rfl, HR.out.1, HR.out.2⟩

theorem cloneI64_any {a : Option Addr} {len cap : Nat} {V : Nat → Value} {w : World} (h : Cel w a len cap V) (hb : len ≤ 1048576) (h1 : ∀ i, (V i).oneCell' = true) :
    Calls Try.prog 8 #[.slice a len cap] w fun e w' => ∃ a' c', e = .returned (.slice a' len c') ∧ Own w' 2 a' len c' V ∧ (∀ g, (Value.slice a' len c').ownBlock = some g → w.heap.size ≤ g) ∧ Fr (· < w.heap.size) w w' := by
  rcases h with ⟨rfl, rfl, rfl⟩ | ⟨x, rfl, hc⟩
  · refine (cloneI64_nil w).mono ?_
    rintro e w' ⟨rfl, rfl⟩
    exact ⟨_, _, rfl, World.ownsRow_nil _ _ _ _, by simp [Value.ownBlock], Fr.refl _ _⟩
  · refine (cloneI64_some x len cap V w hb hc h1).mono ?_
    rintro e w' ⟨rfl, g1, g2⟩
    exact ⟨_, _, rfl, g1, by simp [Value.ownBlock], g2⟩

theorem Try.info4 : (Try.prog.info? 4).map (fun i => (i.zero, i.size, i.bytes)) = some (some (.bool false), 1, 1) := by kernel_rfl
theorem Try.size4 : (Try.prog.info? 4).map (·.size) = some 1 := by kernel_rfl

theorem cloneBool_nil (w : World) : Calls Try.prog 9 #[.slice none 0 0] w fun e w' => e = .returned (.slice none 0 0) ∧ w = w' := by
  have he := fun (w : World) => Lib.run_eql_slice_nil (P := Try.prog) w 23 4 none 0 0 0 0 Try.underlying23
  go_enter Try.func9, Try.ntmps9
  go_wp2
  go_ret
  exact ⟨rfl, rfl⟩

set_option maxHeartbeats 400000 in
theorem cloneBool_some (x : Addr) (len cap : Nat) (V : Nat → Value) (w : World) (hb : len ≤ 1048576) (hc : ∀ i, i < len → w.cell? (x.add i) = some (V i)) (h1 : ∀ i, (V i).oneCell' = true) :
    Calls Try.prog 9 #[.slice (some x) len cap] w fun e w' => e = .returned (.slice (some ⟨w.heap.size, 0, none⟩) len len) ∧ w'.ownsRow 0 4 1 (.slice (some ⟨w.heap.size, 0, none⟩) len len) len ((List.range len).map V) ∧ Fr (· < w.heap.size) w w' := by
  obtain ⟨i0, hi, hz0, hz1, hz2⟩ := info_parts Try.info4
  have he := fun (w : World) => Lib.run_eql_slice_nil (P := Try.prog) w 23 4 (some x) len cap 0 0 Try.underlying23
  have hmk : ∀ w : World, (Instr.makeSlice 23 (.int .i64 (len : Int)) (.int .i64 (len : Int))).run Try.prog w = .ok (.slice (some ⟨w.heap.size, 0, none⟩) len len) (w.alloc (.cells (madeCells #[.bool false] len) 4)) := by
    intro w
    have := run_make (P := Try.prog) w 23 4 i0 (.bool false) Try.underlying23 hi hz0 .i64 .i64 len len (by omega) (by omega) (by rw [hz2]; omega) (by omega)
    simpa [hz1, Value.cells] using this
  have hn : ((List.range len).map V).length = len := by simp
  have hsrc : ∀ j v, ((List.range len).map V)[j]? = some v → (w.alloc (.cells (madeCells #[.bool false] len) 4)).cell? (x.add j) = some v := by
    intro j v hv
    have hj : j < len := by have := (List.getElem?_eq_some_iff.1 hv).1; omega
    have h2 : ((List.range len).map V)[j]? = some (V j) := by simp [hj]
    rw [h2] at hv
    rw [Lib.cell?_alloc_some _ (hc j hj), hv]
  have h1c : ∀ v ∈ (List.range len).map V, v.oneCell' = true := by
    intro v hv
    obtain ⟨i, _, rfl⟩ := List.mem_map.1 hv
    exact h1 i
  have hcp := fun ty => run_copy_row (P := Try.prog) (w.alloc (.cells (madeCells #[.bool false] len) 4)) 23 23 ty 4 w.heap.size 0 len len x len cap (madeCells #[.bool false] len) 4 ((List.range len).map V) Try.underlying23 Try.size4 (heap_alloc_new w _) (by rw [hn]; exact (Nat.min_self _).symm) hsrc (by rw [hn]; simp [madeCells]) h1c
  have hrow := setRow_heap (w.alloc (.cells (madeCells #[.bool false] len) 4)) w.heap.size (madeCells #[.bool false] len) ((madeCells #[.bool false] len).toList.take 0 ++ ((List.range len).map V ++ (madeCells #[.bool false] len).toList.drop (0 + ((List.range len).map V).length))).toArray 4 (0, 0) (heap_alloc_new w _)
  have hfr : Fr (· < w.heap.size) w ((w.alloc (.cells (madeCells #[.bool false] len) 4)).setRow w.heap.size ((madeCells #[.bool false] len).toList.take 0 ++ ((List.range len).map V ++ (madeCells #[.bool false] len).toList.drop (0 + ((List.range len).map V).length))).toArray) :=
    ((Fr.refl _ w).alloc (fun _ e => e) _).trans ⟨rfl, rfl, rfl, by simp [World.setRow], fun k hk => setRow_other _ _ _ _ (by omega)⟩
  have hd : (madeCells #[.bool false] len).toList.drop (0 + ((List.range len).map V).length) = [] := by
    rw [hn, toList_madeCells_one]; simp
  rw [hd, List.take_zero, List.nil_append, List.append_nil] at hrow hfr
  simp only [hd, List.take_zero, List.nil_append, List.append_nil] at hcp
  generalize hcs : (List.range len).map V = cs at *
  generalize hW : (w.alloc (.cells (madeCells #[.bool false] len) 4)).setRow w.heap.size cs.toArray = W at *
  have HR : Hid (W.ownsRow 0 4 1 (.slice (some ⟨w.heap.size, 0, none⟩) len len) len cs ∧ Fr (· < w.heap.size) w W) :=
    ⟨⟨by omega, .inr ⟨w.heap.size, len, cs.toArray, rfl, Nat.zero_le _, hrow, Nat.le_refl _, by unfold maxLen; omega, by simp; omega, by simp [List.take_of_length_le, hn]⟩⟩, hfr⟩
  clear hrow hfr hsrc hd hW hcs hc h1 h1c
  go_enter Try.func9, Try.ntmps9
  go_wp2
  go_ret
  exact ⟨rfl, HR.out.1, HR.out.2⟩

theorem cloneBool_any {a : Option Addr} {len cap : Nat} {V : Nat → Value} {w : World} (h : Cel w a len cap V) (hb : len ≤ 1048576) (h1 : ∀ i, (V i).oneCell' = true) :
    Calls Try.prog 9 #[.slice a len cap] w fun e w' => ∃ a' c', e = .returned (.slice a' len c') ∧ Own w' 4 a' len c' V ∧ (∀ g, (Value.slice a' len c').ownBlock = some g → w.heap.size ≤ g) ∧ Fr (· < w.heap.size) w w' := by
  rcases h with ⟨rfl, rfl, rfl⟩ | ⟨x, rfl, hc⟩
  · refine (cloneBool_nil w).mono ?_
    rintro e w' ⟨rfl, rfl⟩
    exact ⟨_, _, rfl, World.ownsRow_nil _ _ _ _, by simp [Value.ownBlock], Fr.refl _ _⟩
  · refine (cloneBool_some x len cap V w hb hc h1).mono ?_
    rintro e w' ⟨rfl, g1, g2⟩
    exact ⟨_, _, rfl, g1, by simp [Value.ownBlock], g2⟩

theorem Try.info21 : (Try.prog.info? 21).map (fun i => (i.zero, i.size, i.bytes)) = some (some (.int .i32 0), 1, 4) := by kernel_rfl
theorem Try.size21 : (Try.prog.info? 21).map (·.size) = some 1 := by kernel_rfl

theorem cloneI32_nil (w : World) : Calls Try.prog 18 #[.slice none 0 0] w fun e w' => e = .returned (.slice none 0 0) ∧ w = w' := by
  have he := fun (w : World) => Lib.run_eql_slice_nil (P := Try.prog) w 28 21 none 0 0 0 0 Try.underlying28
  go_enter Try.func18, Try.ntmps18
  go_wp2
  go_ret
  exact ⟨rfl, rfl⟩

set_option maxHeartbeats 400000 in
theorem cloneI32_some (x : Addr) (len cap : Nat) (V : Nat → Value) (w : World) (hb : len ≤ 1048576) (hc : ∀ i, i < len → w.cell? (x.add i) = some (V i)) (h1 : ∀ i, (V i).oneCell' = true) :
    Calls Try.prog 18 #[.slice (some x) len cap] w fun e w' => e = .returned (.slice (some ⟨w.heap.size, 0, none⟩) len len) ∧ w'.ownsRow 0 21 1 (.slice (some ⟨w.heap.size, 0, none⟩) len len) len ((List.range len).map V) ∧ Fr (· < w.heap.size) w w' := by
  obtain ⟨i0, hi, hz0, hz1, hz2⟩ := info_parts Try.info21
  have he := fun (w : World) => Lib.run_eql_slice_nil (P := Try.prog) w 28 21 (some x) len cap 0 0 Try.underlying28
  have hmk : ∀ w : World, (Instr.makeSlice 28 (.int .i64 (len : Int)) (.int .i64 (len : Int))).run Try.prog w = .ok (.slice (some ⟨w.heap.size, 0, none⟩) len len) (w.alloc (.cells (madeCells #[.int .i32 0] len) 21)) := by
    intro w
    have := run_make (P := Try.prog) w 28 21 i0 (.int .i32 0) Try.underlying28 hi hz0 .i64 .i64 len len (by omega) (by omega) (by rw [hz2]; omega) (by omega)
    simpa [hz1, Value.cells] using this
  have hn : ((List.range len).map V).length = len := by simp
  have hsrc : ∀ j v, ((List.range len).map V)[j]? = some v → (w.alloc (.cells (madeCells #[.int .i32 0] len) 21)).cell? (x.add j) = some v := by
    intro j v hv
    have hj : j < len := by have := (List.getElem?_eq_some_iff.1 hv).1; omega
    have h2 : ((List.range len).map V)[j]? = some (V j) := by simp [hj]
    rw [h2] at hv
    rw [Lib.cell?_alloc_some _ (hc j hj), hv]
  have h1c : ∀ v ∈ (List.range len).map V, v.oneCell' = true := by
    intro v hv
    obtain ⟨i, _, rfl⟩ := List.mem_map.1 hv
    exact h1 i
  have hcp := fun ty => run_copy_row (P := Try.prog) (w.alloc (.cells (madeCells #[.int .i32 0] len) 21)) 28 28 ty 21 w.heap.size 0 len len x len cap (madeCells #[.int .i32 0] len) 21 ((List.range len).map V) Try.underlying28 Try.size21 (heap_alloc_new w _) (by rw [hn]; exact (Nat.min_self _).symm) hsrc (by rw [hn]; simp [madeCells]) h1c
  have hrow := setRow_heap (w.alloc (.cells (madeCells #[.int .i32 0] len) 21)) w.heap.size (madeCells #[.int .i32 0] len) ((madeCells #[.int .i32 0] len).toList.take 0 ++ ((List.range len).map V ++ (madeCells #[.int .i32 0] len).toList.drop (0 + ((List.range len).map V).length))).toArray 21 (0, 0) (heap_alloc_new w _)
  have hfr : Fr (· < w.heap.size) w ((w.alloc (.cells (madeCells #[.int .i32 0] len) 21)).setRow w.heap.size ((madeCells #[.int .i32 0] len).toList.take 0 ++ ((List.range len).map V ++ (madeCells #[.int .i32 0] len).toList.drop (0 + ((List.range len).map V).length))).toArray) :=
    ((Fr.refl _ w).alloc (fun _ e => e) _).trans ⟨rfl, rfl, rfl, by simp [World.setRow], fun k hk => setRow_other _ _ _ _ (by omega)⟩
  have hd : (madeCells #[.int .i32 0] len).toList.drop (0 + ((List.range len).map V).length) = [] := by
    rw [hn, toList_madeCells_one]; simp
  rw [hd, List.take_zero, List.nil_append, List.append_nil] at hrow hfr
  simp only [hd, List.take_zero, List.nil_append, List.append_nil] at hcp
  generalize hcs : (List.range len).map V = cs at *
  generalize hW : (w.alloc (.cells (madeCells #[.int .i32 0] len) 21)).setRow w.heap.size cs.toArray = W at *
  have HR : Hid (W.ownsRow 0 21 1 (.slice (some ⟨w.heap.size, 0, none⟩) len len) len cs ∧ Fr (· < w.heap.size) w W) :=
    ⟨⟨by omega, .inr ⟨w.heap.size, len, cs.toArray, rfl, Nat.zero_le _, hrow, Nat.le_refl _, by unfold maxLen; omega, by simp; omega, by simp [List.take_of_length_le, hn]⟩⟩, hfr⟩
  clear hrow hfr hsrc hd hW hcs hc h1 h1c
  go_enter Try.func18, Try.ntmps18
  go_wp2
  go_ret
  exact ⟨rfl, HR.out.1, HR.out.2⟩

theorem cloneI32_any {a : Option Addr} {len cap : Nat} {V : Nat → Value} {w : World} (h : Cel w a len cap V) (hb : len ≤ 1048576) (h1 : ∀ i, (V i).oneCell' = true) :
    Calls Try.prog 18 #[.slice a len cap] w fun e w' => ∃ a' c', e = .returned (.slice a' len c') ∧ Own w' 21 a' len c' V ∧ (∀ g, (Value.slice a' len c').ownBlock = some g → w.heap.size ≤ g) ∧ Fr (· < w.heap.size) w w' := by
  rcases h with ⟨rfl, rfl, rfl⟩ | ⟨x, rfl, hc⟩
  · refine (cloneI32_nil w).mono ?_
    rintro e w' ⟨rfl, rfl⟩
    exact ⟨_, _, rfl, World.ownsRow_nil _ _ _ _, by simp [Value.ownBlock], Fr.refl _ _⟩
  · refine (cloneI32_some x len cap V w hb hc h1).mono ?_
    rintro e w' ⟨rfl, g1, g2⟩
    exact ⟨_, _, rfl, g1, by simp [Value.ownBlock], g2⟩

theorem Try.info5 : (Try.prog.info? 5).map (fun i => (i.zero, i.size, i.bytes)) = some (some (.int .u8 0), 1, 1) := by kernel_rfl
theorem Try.size5 : (Try.prog.info? 5).map (·.size) = some 1 := by kernel_rfl

theorem cloneBy_nil (w : World) : Calls Try.prog 21 #[.slice none 0 0] w fun e w' => e = .returned (.slice none 0 0) ∧ w = w' := by
  have he := fun (w : World) => Lib.run_eql_slice_nil (P := Try.prog) w 46 5 none 0 0 0 0 Try.underlying46
  go_enter Try.func21, Try.ntmps21
  go_wp2
  go_ret
  exact ⟨rfl, rfl⟩

set_option maxHeartbeats 400000 in
theorem cloneBy_some (x : Addr) (len cap : Nat) (V : Nat → Value) (w : World) (hb : len ≤ 1048576) (hc : ∀ i, i < len → w.cell? (x.add i) = some (V i)) (h1 : ∀ i, (V i).oneCell' = true) :
    Calls Try.prog 21 #[.slice (some x) len cap] w fun e w' => e = .returned (.slice (some ⟨w.heap.size, 0, none⟩) len len) ∧ w'.ownsRow 0 5 1 (.slice (some ⟨w.heap.size, 0, none⟩) len len) len ((List.range len).map V) ∧ Fr (· < w.heap.size) w w' := by
  obtain ⟨i0, hi, hz0, hz1, hz2⟩ := info_parts Try.info5
  have he := fun (w : World) => Lib.run_eql_slice_nil (P := Try.prog) w 46 5 (some x) len cap 0 0 Try.underlying46
  have hmk : ∀ w : World, (Instr.makeSlice 46 (.int .i64 (len : Int)) (.int .i64 (len : Int))).run Try.prog w = .ok (.slice (some ⟨w.heap.size, 0, none⟩) len len) (w.alloc (.cells (madeCells #[.int .u8 0] len) 5)) := by
    intro w
    have := run_make (P := Try.prog) w 46 5 i0 (.int .u8 0) Try.underlying46 hi hz0 .i64 .i64 len len (by omega) (by omega) (by rw [hz2]; omega) (by omega)
    simpa [hz1, Value.cells] using this
  have hn : ((List.range len).map V).length = len := by simp
  have hsrc : ∀ j v, ((List.range len).map V)[j]? = some v → (w.alloc (.cells (madeCells #[.int .u8 0] len) 5)).cell? (x.add j) = some v := by
    intro j v hv
    have hj : j < len := by have := (List.getElem?_eq_some_iff.1 hv).1; omega
    have h2 : ((List.range len).map V)[j]? = some (V j) := by simp [hj]
    rw [h2] at hv
    rw [Lib.cell?_alloc_some _ (hc j hj), hv]
  have h1c : ∀ v ∈ (List.range len).map V, v.oneCell' = true := by
    intro v hv
    obtain ⟨i, _, rfl⟩ := List.mem_map.1 hv
    exact h1 i
  have hcp := fun ty => run_copy_row (P := Try.prog) (w.alloc (.cells (madeCells #[.int .u8 0] len) 5)) 46 46 ty 5 w.heap.size 0 len len x len cap (madeCells #[.int .u8 0] len) 5 ((List.range len).map V) Try.underlying46 Try.size5 (heap_alloc_new w _) (by rw [hn]; exact (Nat.min_self _).symm) hsrc (by rw [hn]; simp [madeCells]) h1c
  have hrow := setRow_heap (w.alloc (.cells (madeCells #[.int .u8 0] len) 5)) w.heap.size (madeCells #[.int .u8 0] len) ((madeCells #[.int .u8 0] len).toList.take 0 ++ ((List.range len).map V ++ (madeCells #[.int .u8 0] len).toList.drop (0 + ((List.range len).map V).length))).toArray 5 (0, 0) (heap_alloc_new w _)
  have hfr : Fr (· < w.heap.size) w ((w.alloc (.cells (madeCells #[.int .u8 0] len) 5)).setRow w.heap.size ((madeCells #[.int .u8 0] len).toList.take 0 ++ ((List.range len).map V ++ (madeCells #[.int .u8 0] len).toList.drop (0 + ((List.range len).map V).length))).toArray) :=
    ((Fr.refl _ w).alloc (fun _ e => e) _).trans ⟨rfl, rfl, rfl, by simp [World.setRow], fun k hk => setRow_other _ _ _ _ (by omega)⟩
  have hd : (madeCells #[.int .u8 0] len).toList.drop (0 + ((List.range len).map V).length) = [] := by
    rw [hn, toList_madeCells_one]; simp
  rw [hd, List.take_zero, List.nil_append, List.append_nil] at hrow hfr
  simp only [hd, List.take_zero, List.nil_append, List.append_nil] at hcp
  generalize hcs : (List.range len).map V = cs at *
  generalize hW : (w.alloc (.cells (madeCells #[.int .u8 0] len) 5)).setRow w.heap.size cs.toArray = W at *
  have HR : Hid (W.ownsRow 0 5 1 (.slice (some ⟨w.heap.size, 0, none⟩) len len) len cs ∧ Fr (· < w.heap.size) w W) :=
    ⟨⟨by omega, .inr ⟨w.heap.size, len, cs.toArray, rfl, Nat.zero_le _, hrow, Nat.le_refl _, by unfold maxLen; omega, by simp; omega, by simp [List.take_of_length_le, hn]⟩⟩, hfr⟩
  clear hrow hfr hsrc hd hW hcs hc h1 h1c
  go_enter Try.func21, Try.ntmps21
  go_wp2
  go_ret
  exact ⟨rfl, HR.out.1, HR.out.2⟩

theorem cloneBy_any {a : Option Addr} {len cap : Nat} {V : Nat → Value} {w : World} (h : Cel w a len cap V) (hb : len ≤ 1048576) (h1 : ∀ i, (V i).oneCell' = true) :
    Calls Try.prog 21 #[.slice a len cap] w fun e w' => ∃ a' c', e = .returned (.slice a' len c') ∧ Own w' 5 a' len c' V ∧ (∀ g, (Value.slice a' len c').ownBlock = some g → w.heap.size ≤ g) ∧ Fr (· < w.heap.size) w w' := by
  rcases h with ⟨rfl, rfl, rfl⟩ | ⟨x, rfl, hc⟩
  · refine (cloneBy_nil w).mono ?_
    rintro e w' ⟨rfl, rfl⟩
    exact ⟨_, _, rfl, World.ownsRow_nil _ _ _ _, by simp [Value.ownBlock], Fr.refl _ _⟩
  · refine (cloneBy_some x len cap V w hb hc h1).mono ?_
    rintro e w' ⟨rfl, g1, g2⟩
    exact ⟨_, _, rfl, g1, by simp [Value.ownBlock], g2⟩

end Go.Proofs.Qxb6003682a

import Derived.Test.Qxb6003672aProg
import Derived.WalkKit
import Derived.WalkSpells
import Derived.Maps.AppendAt
namespace Go.Proofs.Qxb6003672a
open Go.RowKit
set_option linter.unusedVariables false

theorem Try.info3 : (Try.prog.info? 3).map (fun i => (i.zero, i.size, i.bytes)) = some (some (.int .i64 0), 1, 8) := by kernel_rfl

/-- the bound's function: what it answers does not matter; it returns and turns nothing -/
theorem bytes26 (n : Int) (a1 : Option Addr) (l1 c1 : Nat) (a2 : Option Addr) (l2 c2 : Nat) (w : World) (h1 : l1 ≤ 9223372036854775807) (h2 : l2 ≤ 9223372036854775807) :
    Calls Try.prog 26 #[.int .i64 n, .slice a1 l1 c1, .slice a2 l2 c2] w fun e w' => (∃ b, e = .returned (.bool b)) ∧ w = w' := by
  go_enter Try.func26, Try.ntmps26
  go_wp2
  all_goals (go_ret; exact ⟨⟨_, rfl⟩, rfl⟩)

/-- Blocks in F are as they were; nothing is undone. -/
structure Fr (F : Nat → Prop) (w w' : World) : Prop where
  os : w'.os = w.os
  tape : w'.tape = w.tape
  output : w'.output = w.output
  size : w.heap.size ≤ w'.heap.size
  block : ∀ k, F k → w'.heap[k]? = w.heap[k]?

theorem Fr.refl (F : Nat → Prop) (w : World) : Fr F w w := ⟨rfl, rfl, rfl, Nat.le_refl _, fun _ _ => rfl⟩
theorem Fr.trans {F : Nat → Prop} {a b c : World} (h : Fr F a b) (k : Fr F b c) : Fr F a c :=
  ⟨k.os.trans h.os, k.tape.trans h.tape, k.output.trans h.output, Nat.le_trans h.size k.size, fun i hi => (k.block i hi).trans (h.block i hi)⟩
theorem Fr.mono {F G : Nat → Prop} {a b : World} (h : Fr F a b) (hG : ∀ k, G k → F k) : Fr G a b := ⟨h.os, h.tape, h.output, h.size, fun k hk => h.block k (hG k hk)⟩
theorem Fr.drew {F : Nat → Prop} {a w : World} (h : Fr F a w) : Fr F a w.drew := ⟨h.os, h.tape, h.output, h.size, h.block⟩
theorem Fr.alloc {F : Nat → Prop} {a w : World} (h : Fr F a w) (hF : ∀ k, F k → k < w.heap.size) (o : Obj) : Fr F a (w.alloc o) :=
  h.trans ⟨rfl, rfl, rfl, by simp, fun k hk => Below.heap_alloc _ _ _ (hF k hk)⟩
theorem Fr.setCell {F : Nat → Prop} {a w : World} (h : Fr F a w) {p : Addr} (hp : ¬ F p.block) (u : Value) : Fr F a (w.setCell p u) :=
  h.trans ⟨rfl, rfl, rfl, by simp [World.setCell], fun k hk => Below.heap_setCell _ _ _ _ (fun e => hp (e ▸ hk))⟩
theorem Fr.grown {F : Nat → Prop} {a w w' : World} {row : Option Nat} (h : Fr F a w) (hg : w.grownBy w' row) (hF : ∀ k, F k → k < w.heap.size) (hr : ∀ k, row = some k → ¬ F k) : Fr F a w' :=
  h.trans ⟨hg.os, hg.tape, hg.output, hg.size, fun k hk => hg.block k (hF k hk) (fun e => hr k e.symm hk)⟩
theorem Fr.cell {F : Nat → Prop} {w w' : World} (h : Fr F w w') {p : Addr} (hp : F p.block) : w'.cell? p = w.cell? p := World.cell?_of_block (w := w) (h.block p.block hp)
theorem Fr.frozen {F : Nat → Prop} {w w' : World} (h : Fr F w w') {p : Addr} (hp : F p.block) : w'.frozen? p = w.frozen? p := World.frozen?_of_block (w := w) (h.block p.block hp)
theorem Fr.below {B : Nat} {w w' : World} (h : Fr (· < B) w w') : Below B w w' := ⟨h.os, h.tape, h.output, h.size, h.block⟩

/-- The slice v owns the n numbers zs. -/
def Row (w : World) (v : Value) (n : Nat) (zs : List Int) : Prop := w.ownsRow 0 3 1 v n (zs.map (Value.int .i64))

section
variable {w w' : World} {v : Value} {g n cap : Nat} {zs : List Int}
theorem Row.len (h : Row w v n zs) : zs.length = n := by have := h.1; simpa using this
theorem Row.cell (h : Row w (.slice (some ⟨g, 0, none⟩) n cap) n zs) (j : Nat) (hj : j < n) : w.cell? ⟨g, j, none⟩ = some (.int .i64 (zs.getD j 0)) := by
  have hl := h.len
  have := World.ownsRow.cellAt h j (by omega)
  rw [this]
  simp [List.getD, show j < zs.length by omega]
theorem Row.frozen (h : Row w (.slice (some ⟨g, 0, none⟩) n cap) n zs) (j : Nat) : w.frozen? ⟨g, j, none⟩ = false := World.ownsRow.frozenAt h j
theorem Row.set (h : Row w (.slice (some ⟨g, 0, none⟩) n cap) n zs) (j : Nat) (x : Int) : Row (w.setCell ⟨g, j, none⟩ (.int .i64 x)) (.slice (some ⟨g, 0, none⟩) n cap) n (zs.set j x) := by
  have := (World.ownsRow.stored h j (.int .i64 x)).1
  unfold Row
  rw [List.map_set]
  exact this
theorem Row.lt (h : Row w (.slice (some ⟨g, 0, none⟩) n cap) n zs) : g < w.heap.size := (World.ownsRow.lt h g rfl).2
theorem Row.keep (h : Row w v n zs) (hk : ∀ k, v.ownBlock = some k → w'.heap[k]? = w.heap[k]?) : Row w' v n zs := by
  refine ⟨h.1, ?_⟩
  rcases h.2 with hn | ⟨g, cap, cur, rfl, hb, hgg, rest⟩
  · exact .inl hn
  · exact .inr ⟨g, cap, cur, rfl, hb, (hk g rfl).trans hgg, rest⟩
theorem Row.fr {F : Nat → Prop} (h : Row w v n zs) (hf : Fr F w w') (hk : ∀ k, v.ownBlock = some k → F k) : Row w' v n zs := h.keep fun k e => hf.block k (hk k e)
theorem Row.drew (h : Row w v n zs) : Row w.drew v n zs := h
theorem Row.alloc (h : Row w v n zs) (o : Obj) : Row (w.alloc o) v n zs := World.ownsRow.alloc h o
theorem Row.setOther (h : Row w v n zs) {p : Addr} (u : Value) (hk : v.ownBlock ≠ some p.block) : Row (w.setCell p u) v n zs :=
  h.keep fun k e => Below.heap_setCell _ _ _ _ (fun e' => hk (by rw [e, e']))
theorem Row.form (h : Row w v n zs) (hn : 0 < n) : ∃ g cap, v = .slice (some ⟨g, 0, none⟩) n cap := by
  rcases h.2 with ⟨_, hn⟩ | ⟨g, cap, cur, rfl, _⟩
  · omega
  · exact ⟨g, cap, rfl⟩
end

theorem made_zero (n : Nat) : (madeCells #[Value.int .i64 0] n).toList = (List.replicate n (0 : Int)).map (Value.int .i64) := by
  rw [toList_madeCells_one]; simp

/-- WHAT THE WALK IS TOLD OF A SLICE OF INTEGERS THAT CAME IN. -/
def IsRow (k : IntKind) (w : World) (a : Option Addr) (len cap : Nat) (zs : List Int) : Prop :=
  (a = none ∧ len = 0 ∧ cap = 0 ∧ zs = []) ∨
  ∃ x, a = some x ∧ len ≤ cap ∧ cap ≤ maxLen ∧ zs.length = cap ∧ (∀ i, i < zs.length → w.cell? (x.add i) = some (.int k (zs.getD i 0))) ∧ ∀ n ∈ zs, (Lit.int k n).wf = true

theorem clone_nil (w : World) : Calls Try.prog 9 #[.slice none 0 0] w fun e w' => e = .returned (.slice none 0 0) ∧ w = w' := by
  have he := fun (w : World) => Lib.run_eql_slice_nil (P := Try.prog) w 22 3 none 0 0 0 0 Try.underlying22
  go_enter Try.func9, Try.ntmps9
  go_wp2
  go_ret
  exact ⟨rfl, rfl⟩

/-- what the copy holds when k cells are copied -/
def cpy (zs : List Int) (len k : Nat) : List Int := zs.take k ++ List.replicate (len - k) 0
theorem cpy_set (zs : List Int) (len k : Nat) (h : k < len) (hz : len ≤ zs.length) : (cpy zs len k).set k (zs.getD k 0) = cpy zs len (k + 1) := by
  unfold cpy
  rw [List.set_append_right _ _ (by simp; omega)]
  have e : len - k = (len - (k + 1)) + 1 := by omega
  rw [e, List.replicate_succ]
  have : k - (List.take k zs).length = 0 := by simp; omega
  have e2 : zs.getD k 0 = zs[k]'(by omega) := by simp [List.getD, show k < zs.length by omega]
  rw [this, List.set_cons_zero, List.take_succ_eq_append_getElem (show k < zs.length by omega), e2, List.append_assoc]
  rfl

set_option maxHeartbeats 400000 in
theorem clone_some (x : Addr) (len cap : Nat) (zs : List Int) (w : World) (hl : len ≤ cap) (hm : cap ≤ maxLen) (hz : zs.length = cap) (hb : len * 8 ≤ 140737488351232)
    (hc : ∀ i, i < zs.length → w.cell? (x.add i) = some (.int .i64 (zs.getD i 0))) :
    Calls Try.prog 9 #[.slice (some x) len cap] w fun e w' => e = .returned (.slice (some ⟨w.heap.size, 0, none⟩) len len) ∧ Row w' (.slice (some ⟨w.heap.size, 0, none⟩) len len) len (zs.take len) ∧ Fr (· < w.heap.size) w w' := by
  obtain ⟨i0, hi, hz0, hz1, hz2⟩ := info_parts Try.info3
  unfold maxLen at hm
  have he := fun (w : World) => Lib.run_eql_slice_nil (P := Try.prog) w 22 3 (some x) len cap 0 0 Try.underlying22
  go_enter Try.func9, Try.ntmps9
  go_wp2_with (first | (at_make; refine wpList_make_full _ rfl _ _ 22 rfl 0 3 i0 (.int .i64 0) 1 Try.underlying22 hi hz0 hz1 _ _ _ _ len rfl rfl rfl rfl (by rw [hz2]; omega) (by unfold maxLen; omega) (Nat.zero_le _) ?_))
  intro w1 hown hg
  simp only [made_zero] at hown
  have hrow : Row w1 (.slice (some ⟨w.heap.size, 0, none⟩) len len) len (cpy zs len 0) := by simpa [cpy, Row] using hown
  have hfr : Fr (· < w.heap.size) w w1 := (Fr.refl _ _).grown hg (fun _ h => h) (by simp)
  clear hown hg
  go_wp2
  go_loopw [4] (fun i wr => ∃ k : Nat, k ≤ len ∧ i = .int .i64 k ∧ Row wr (.slice (some ⟨w.heap.size, 0, none⟩) len len) len (cpy zs len k) ∧ Fr (· < w.heap.size) w wr) (fun i _ => len - (intOf i).toNat)
  case atStart => exact ⟨0, Nat.zero_le _, rfl, hrow, hfr⟩
  case round =>
    obtain ⟨k, hk, rfl, hr, hf⟩ := hrel
    by_cases hlt : k < len
    · have hcell := hc k (by omega)
      have hlast := World.block_lt_of_cell? _ _ hcell
      have hcx : wr.cell? (x.add k) = some (.int .i64 (zs.getD k 0)) := (hf.cell (p := x.add k) hlast).trans hcell
      have h2 := hr.cell k hlt
      have h3 := hr.frozen k
      have hs := hr.set k (zs.getD k 0)
      rw [cpy_set zs len k hlt (by omega)] at hs
      have hf2 := hf.setCell (p := ⟨w.heap.size, k, none⟩) (by simp) (.int .i64 (zs.getD k 0))
      have R : Hid (Row (wr.setCell ⟨w.heap.size, k, none⟩ (.int .i64 (zs.getD k 0))) (.slice (some ⟨w.heap.size, 0, none⟩) len len) len (cpy zs len (k + 1)) ∧ Fr (· < w.heap.size) w (wr.setCell ⟨w.heap.size, k, none⟩ (.int .i64 (zs.getD k 0)))) := ⟨hs, hf2⟩
      clear hs hf2 hcell
      generalize zs.getD k 0 = z at *
      go_wp2
      go_roundw
      case rel => exact ⟨k + 1, by omega, by go_num, R.out.1, R.out.2⟩
      case measure => simp [intOf]; omega
    · have e : k = len := by omega
      subst e
      go_wp2
      go_ret
      exact ⟨rfl, by simpa [cpy] using hr, hf⟩

/-- cloneInts, whatever slice comes in -/
theorem clone_any {a : Option Addr} {len cap : Nat} {zs : List Int} {w : World} (h : IsRow .i64 w a len cap zs) (hb : len * 8 ≤ 140737488351232) :
    Calls Try.prog 9 #[.slice a len cap] w fun e w' => ∃ v, e = .returned v ∧ Row w' v len (zs.take len) ∧ Fr (· < w.heap.size) w w' ∧ (v.ownBlock = none ∨ v.ownBlock = some w.heap.size) := by
  rcases h with ⟨rfl, rfl, rfl, rfl⟩ | ⟨x, rfl, hl, hm, hz, hc, _⟩
  · refine (clone_nil w).mono ?_
    rintro e w' ⟨rfl, rfl⟩
    exact ⟨_, rfl, World.ownsRow_nil _ _ _ _, Fr.refl _ _, .inl rfl⟩
  · refine (clone_some x len cap zs w hl hm hz hb hc).mono ?_
    rintro e w' ⟨rfl, h1, h2⟩
    exact ⟨_, rfl, h1, h2, .inr rfl⟩

end Go.Proofs.Qxb6003672a

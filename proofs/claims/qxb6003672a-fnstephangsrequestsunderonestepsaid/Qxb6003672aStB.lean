import Derived.Test.Qxb6003672aStA
namespace Go.Proofs.Qxb6003672a
open Go.RowKit
set_option linter.unusedVariables false

/-- a slice of numbers that can be read -/
def Rd (w : World) (a : Option Addr) (len cap : Nat) (zs : List Int) : Prop := zs.length = len ∧ ((a = none ∧ len = 0 ∧ cap = 0) ∨ ∃ x, a = some x ∧ ∀ i, i < len → w.cell? (x.add i) = some (.int .i64 (zs.getD i 0)))
theorem Rd.get {w : World} {a : Option Addr} {len cap : Nat} {zs : List Int} (h : Rd w a len cap zs) : ∀ i, i < len → ∃ x, a = some x ∧ w.cell? (x.add i) = some (.int .i64 (zs.getD i 0)) := by
  intro i hi
  rcases h.2 with ⟨_, e, _⟩ | ⟨x, e, hc⟩
  · omega
  · exact ⟨x, e, hc i hi⟩
theorem Row.rd {w : World} {a : Option Addr} {len cap : Nat} {zs : List Int} (h : Row w (.slice a len cap) len zs) : Rd w a len cap zs := by
  refine ⟨h.len, ?_⟩
  rcases h.2 with ⟨e, e0⟩ | ⟨g, c, cur, e, _⟩
  · simp at e; exact .inl ⟨e.1, e0, e.2.2⟩
  · simp at e
    obtain ⟨rfl, rfl⟩ := e
    refine .inr ⟨_, rfl, fun i hi => ?_⟩
    have := h.cell i hi
    simpa [Addr.add_lit] using this

set_option maxHeartbeats 400000 in
theorem clone2_some (x : Addr) (len cap : Nat) (zs : List Int) (w : World) (hz : zs.length = len) (hb : len ≤ 1048576)
    (hc : ∀ i, i < len → w.cell? (x.add i) = some (.int .i64 (zs.getD i 0))) :
    Calls Try.prog 9 #[.slice (some x) len cap] w fun e w' => e = .returned (.slice (some ⟨w.heap.size, 0, none⟩) len len) ∧ Row w' (.slice (some ⟨w.heap.size, 0, none⟩) len len) len zs ∧ Fr (· < w.heap.size) w w' := by
  obtain ⟨i0, hi, hz0, hz1, hz2⟩ := info_parts Try.info3
  have he := fun (w : World) => Lib.run_eql_slice_nil (P := Try.prog) w 22 3 (some x) len cap 0 0 Try.underlying22
  go_enter Try.func9, Try.ntmps9
  go_wp2_with (first | (at_make; refine wpList_make_full _ rfl _ _ 22 rfl 0 3 i0 (.int .i64 0) 1 Try.underlying22 hi hz0 hz1 _ _ _ _ len rfl rfl rfl rfl (by rw [hz2]; omega) (by unfold maxLen; omega) (Nat.zero_le _) ?_))
  intro w1 hown hg
  simp only [made_zero] at hown
  have hrow : Row w1 (.slice (some ⟨w.heap.size, 0, none⟩) len len) len (cpy zs len 0) := by simpa [cpy, Row] using hown
  have hfr : Fr (· < w.heap.size) w w1 := (Fr.refl _ _).grown hg (fun _ h => h) (by simp)
  clear hown hg
  go_wp2
  go_loopw [4] (fun i wr => ∃ k : Nat, k ≤ len ∧ i = .int .i64 k ∧ Row wr (.slice (some ⟨w.heap.size, 0, none⟩) len len) len (cpy zs len k) ∧ Fr (· < w.heap.size) w wr) (fun i _ => len - (intOf i).toNat)
  case atStart => exact ⟨0, Nat.zero_le _, rfl, hrow, hfr⟩
  case round =>
    obtain ⟨k, hk, rfl, hr, hf⟩ := hrel
    by_cases hlt : k < len
    · have hcell := hc k (by omega)
      have hlast := World.block_lt_of_cell? _ _ hcell
      have hcx : wr.cell? (x.add k) = some (.int .i64 (zs.getD k 0)) := (hf.cell (p := x.add k) hlast).trans hcell
      have h2 := hr.cell k hlt
      have h3 := hr.frozen k
      have hs := hr.set k (zs.getD k 0)
      rw [cpy_set zs len k hlt (by omega)] at hs
      have hf2 := hf.setCell (p := ⟨w.heap.size, k, none⟩) (by simp) (.int .i64 (zs.getD k 0))
      have R : Hid (Row (wr.setCell ⟨w.heap.size, k, none⟩ (.int .i64 (zs.getD k 0))) (.slice (some ⟨w.heap.size, 0, none⟩) len len) len (cpy zs len (k + 1)) ∧ Fr (· < w.heap.size) w (wr.setCell ⟨w.heap.size, k, none⟩ (.int .i64 (zs.getD k 0)))) := ⟨hs, hf2⟩
      clear hs hf2 hcell
      generalize zs.getD k 0 = z at *
      go_wp2
      go_roundw
      case rel => exact ⟨k + 1, by omega, by go_num, R.out.1, R.out.2⟩
      case measure => simp [intOf]; omega
    · have e : k = len := by omega
      subst e
      have hr2 : Row wr (.slice (some ⟨w.heap.size, 0, none⟩) k k) k zs := by
        have e1 : cpy zs k k = zs := by unfold cpy; rw [← hz, List.take_length]; simp
        rw [e1] at hr
        exact hr
      have HR := Hid.mk' (And.intro hr2 hf)
      clear hr hr2 hf
      go_wp2
      go_ret
      exact ⟨rfl, HR.out.1, HR.out.2⟩

theorem clone2_any {a : Option Addr} {len cap : Nat} {zs : List Int} {w : World} (h : Rd w a len cap zs) (hb : len ≤ 1048576) :
    Calls Try.prog 9 #[.slice a len cap] w fun e w' => ∃ a' c', e = .returned (.slice a' len c') ∧ Row w' (.slice a' len c') len zs ∧ Fr (· < w.heap.size) w w' ∧ (∀ g, (Value.slice a' len c').ownBlock = some g → g = w.heap.size) := by
  obtain ⟨hz, h⟩ := h
  rcases h with ⟨rfl, rfl, rfl⟩ | ⟨x, rfl, hc⟩
  · refine (clone_nil w).mono ?_
    rintro e w' ⟨rfl, rfl⟩
    obtain rfl : zs = [] := List.eq_nil_of_length_eq_zero hz
    exact ⟨_, _, rfl, World.ownsRow_nil _ _ _ _, Fr.refl _ _, by simp [Value.ownBlock]⟩
  · refine (clone2_some x len cap zs w hz hb hc).mono ?_
    rintro e w' ⟨rfl, h1, h2⟩
    exact ⟨_, _, rfl, h1, h2, by simp [Value.ownBlock]⟩

/-- insertion: x goes down from place j -/
def sink (c : List Int) (x : Int) : Nat → List Int
  | 0 => c.set 0 x
  | j + 1 => if x < c.getD j 0 then sink (c.set (j + 1) (c.getD j 0)) x j else c.set (j + 1) x
/-- the row after t rounds of insertion -/
def srt (zs : List Int) : Nat → List Int
  | 0 => zs
  | t + 1 => sink (srt zs t) ((srt zs t).getD (t + 1) 0) (t + 1)

set_option maxRecDepth 100000 in
set_option maxHeartbeats 1000000 in
theorem sorted_any {a : Option Addr} {len cap : Nat} {zs : List Int} {w : World} (h : Rd w a len cap zs) (hb : len ≤ 1048576) :
    Calls Try.prog 25 #[.slice a len cap] w fun e w' => ∃ a' c', e = .returned (.slice a' len c') ∧ Row w' (.slice a' len c') len (srt zs (len - 1)) ∧ Fr (· < w.heap.size) w w' ∧ (∀ g, (Value.slice a' len c').ownBlock = some g → g = w.heap.size) := by
  go_enter Try.func25, Try.ntmps25
  go_wp2_with fail
  refine (clone2_any h hb).mono ?_
  rintro e w1 ⟨aC, cC, rfl, R, f, hg⟩
  clear h
  have HG := Hid.mk' hg
  clear hg
  go_wp2
  go_loopw [4] (fun i wr => ∃ t : Nat, (t + 1 ≤ len ∨ t = 0) ∧ i = .int .i64 ((t + 1 : Nat) : Int) ∧ Row wr (.slice aC len cC) len (srt zs t) ∧ Fr (· < w.heap.size) w wr) (fun i _ => len - (intOf i).toNat)
  case atStart => exact ⟨0, .inr rfl, rfl, R, f⟩
  case round =>
    clear R f
    obtain ⟨t, ht, rfl, R, f⟩ := hrel
    by_cases hlt : t + 1 < len
    · obtain ⟨g, ea, ob, c1, _⟩ := R.get (t + 1) hlt
      subst ea
      have hgw : w.heap.size ≤ g := by have := HG.out g ob; omega
      generalize hx : (srt zs t).getD (t + 1) 0 = x at *
      have HX : Hid (srt zs (t + 1) = sink (srt zs t) x (t + 1)) := by show sink _ _ _ = _; rw [hx]
      clear hx
      generalize srt zs t = C0 at *
      have HRF := Hid.mk' (And.intro R f)
      clear R f
      have wt : IntKind.i64.wrap (((t + 1 : Nat) : Int) - 1) = (t : Int) := by rw [IntKind.wrap_i64]; omega
      go_wp2
      go_loopw [6] (fun j wr => ∃ (q : Nat) (C : List Int), q ≤ t + 1 ∧ j = .int .i64 ((q : Int) - 1) ∧ Hid (sink C x q = sink C0 x (t + 1)) ∧ Row wr (.slice (some ⟨g, 0, none⟩) len cC) len C ∧ Fr (· < w.heap.size) w wr) (fun j _ => ((intOf j) + 1).toNat)
      case atStart => exact ⟨t + 1, C0, Nat.le_refl _, by simp, rfl, HRF.out.1, HRF.out.2⟩
      case round =>
        clear HRF wt c1
        obtain ⟨q, C, hq, rfl, HS, R, f⟩ := hrel
        cases q with
        | zero =>
          have s1 := R.cell 0 (by omega)
          have s2 := R.frozen 0
          have R2 := R.set 0 x
          have f2 := f.setCell (p := ⟨g, 0, none⟩) (by simp; omega) (.int .i64 x)
          have HE : Hid (Row (wr.setCell ⟨g, 0, none⟩ (.int .i64 x)) (.slice (some ⟨g, 0, none⟩) len cC) len (srt zs (t + 1)) ∧ Fr (· < w.heap.size) w (wr.setCell ⟨g, 0, none⟩ (.int .i64 x))) := by
            rw [HX.out, ← HS.out]
            exact ⟨R2, f2⟩
          clear R R2 f2 f HS HX HG
          generalize C.getD 0 0 = z0 at *
          go_wp2
          go_roundw
          case rel => exact ⟨t + 1, by omega, by go_num, HE.out.1, HE.out.2⟩
          case measure => simp [intOf]; omega
        | succ q =>
          have s1 := R.cell q (by omega)
          have s3 := R.cell (q + 1) (by omega)
          have s4 := R.frozen (q + 1)
          have R2 := R.set (q + 1) x
          have f2 := f.setCell (p := ⟨g, q + 1, none⟩) (by simp; omega) (.int .i64 x)
          have R3 := R.set (q + 1) (C.getD q 0)
          have f3 := f.setCell (p := ⟨g, q + 1, none⟩) (by simp; omega) (.int .i64 (C.getD q 0))
          have hs1 : sink C x (q + 1) = if x < C.getD q 0 then sink (C.set (q + 1) (C.getD q 0)) x q else C.set (q + 1) x := rfl
          rw [hs1] at HS
          clear hs1
          generalize C.getD q 0 = z at *
          have wq : IntKind.i64.wrap ((((q + 1 : Nat) : Int) - 1) + 1) = ((q + 1 : Nat) : Int) := by rw [IntKind.wrap_i64]; omega
          by_cases hz : x < z
          · rw [if_pos hz] at HS
            have HE : Hid (Row (wr.setCell ⟨g, q + 1, none⟩ (.int .i64 z)) (.slice (some ⟨g, 0, none⟩) len cC) len (C.set (q + 1) z) ∧ Fr (· < w.heap.size) w (wr.setCell ⟨g, q + 1, none⟩ (.int .i64 z))) := ⟨R3, f3⟩
            clear R R2 R3 f f2 f3 HX HG
            generalize C.getD (q + 1) 0 = z0 at *
            have eq1 : ((q + 1 : Nat) : Int) - 1 = (q : Int) := by omega
            rw [eq1] at *
            go_wp2
            go_roundw
            case rel => exact ⟨q, _, by omega, by go_num, HS, HE.out.1, HE.out.2⟩
            case measure => simp [intOf]
          · rw [if_neg hz] at HS
            have HE : Hid (Row (wr.setCell ⟨g, q + 1, none⟩ (.int .i64 x)) (.slice (some ⟨g, 0, none⟩) len cC) len (srt zs (t + 1)) ∧ Fr (· < w.heap.size) w (wr.setCell ⟨g, q + 1, none⟩ (.int .i64 x))) := by
              rw [HX.out, ← HS.out]
              exact ⟨R2, f2⟩
            clear R R2 R3 f f2 f3 HS HX HG
            generalize C.getD (q + 1) 0 = z0 at *
            have eq1 : ((q + 1 : Nat) : Int) - 1 = (q : Int) := by omega
            rw [eq1] at *
            go_wp2
            go_roundw
            case rel => exact ⟨t + 1, by omega, by go_num, HE.out.1, HE.out.2⟩
            case measure => simp [intOf]; omega
    · have e : t = len - 1 := by omega
      subst e
      have HRF := Hid.mk' (And.intro R f)
      clear R f
      go_wp2
      go_ret
      exact ⟨_, _, rfl, HRF.out.1, HRF.out.2, HG.out⟩

end Go.Proofs.Qxb6003672a

import Derived.Test.Qxb6003672aStB
namespace Go.Proofs.Qxb6003672a
open Go.RowKit
set_option linter.unusedVariables false

theorem Try.info22 : (Try.prog.info? 22).map (fun i => (i.zero, i.size, i.bytes)) = some (some (.slice none 0 0), 1, 24) := by kernel_rfl

/-- the outer row of k slices -/
def OwnV (w : World) (g k : Nat) (V : Nat → Value) : Prop := w.ownsRow 0 22 1 (.slice (some ⟨g, 0, none⟩) k k) k ((List.range k).map V)
theorem OwnV.get {w : World} {g k : Nat} {V : Nat → Value} (h : OwnV w g k V) (i : Nat) (hi : i < k) : w.cell? ⟨g, i, none⟩ = some (V i) ∧ w.frozen? ⟨g, i, none⟩ = false := by
  refine ⟨?_, World.ownsRow.frozenAt h i⟩
  rw [World.ownsRow.cellAt h i (by omega)]
  simp [hi]
theorem OwnV.fr {F : Nat → Prop} {w w' : World} {g k : Nat} {V : Nat → Value} (h : OwnV w g k V) (hf : Fr F w w') (hg : F g) : OwnV w' g k V := wts_keep h fun j e => hf.block j (by simp [Value.ownBlock] at e; exact e ▸ hg)
theorem OwnV.set {w : World} {g k : Nat} {V V' : Nat → Value} (h : OwnV w g k V) (j : Nat) (u : Value) (hV : ∀ i, i < k → V' i = if i = j then u else V i) : OwnV (w.setCell ⟨g, j, none⟩ u) g k V' := by
  have := (World.ownsRow.stored h j u).1
  unfold OwnV
  have e1 : ((List.range k).map V).set j u = (List.range k).map V' := by
    apply List.ext_getElem
    · simp
    · intro i h1 h2
      simp at h1
      simp only [List.getElem_set, List.getElem_map, List.getElem_range]
      rw [hV i h1]
      by_cases e : j = i
      · simp [e]
      · simp [e, Ne.symm e]
  rw [← e1]
  exact this

/-- the copies of the first t rows -/
structure CR (w wr : World) (g k t : Nat) (rs : Nat → List Int) (V : Nat → Value) : Prop where
  own : OwnV wr g k V
  rows : ∀ i, i < t → ∃ ai ci, V i = .slice ai (rs i).length ci ∧ ∀ j, j < (rs i).length → ∃ y, ai = some y ∧ (y.add j).block ≠ g ∧ wr.cell? (y.add j) = some (.int .i64 ((rs i).getD j 0))
  lo : w.heap.size ≤ g
  fr : Fr (· < w.heap.size) w wr

theorem CR.step {w wr w2 : World} {g k t : Nat} {rs : Nat → List Int} {V : Nat → Value} (h : CR w wr g k t rs V) (ht : t < k) (f : Fr (· < wr.heap.size) wr w2) {a' : Option Addr} {c' : Nat}
    (R : Row w2 (.slice a' (rs t).length c') (rs t).length (rs t)) (hn : ∀ q, (Value.slice a' (rs t).length c').ownBlock = some q → wr.heap.size ≤ q) :
    (∃ u, w2.cell? ⟨g, t, none⟩ = some u) ∧ w2.frozen? ⟨g, t, none⟩ = false ∧ CR w (w2.setCell ⟨g, t, none⟩ (.slice a' (rs t).length c')) g k (t + 1) rs (fun i => if i = t then .slice a' (rs t).length c' else V i) := by
  have lg := own_lt h.own (g := g) rfl
  have o2 : OwnV w2 g k V := h.own.fr f lg
  have hs := h.fr.size
  refine ⟨⟨_, (o2.get t ht).1⟩, (o2.get t ht).2, o2.set t _ (fun i hi => rfl), fun i hi => ?_, h.lo, (h.fr.trans (f.mono (fun q hq => by omega))).setCell (p := ⟨g, t, none⟩) (by have := h.lo; simp; omega) _⟩
  by_cases e : i = t
  · subst e
    refine ⟨a', c', by simp, fun j hj => ?_⟩
    obtain ⟨q, ea, ob, c, _⟩ := R.get j hj
    subst ea
    have hq := hn q ob
    have hne : ((⟨q, 0, none⟩ : Addr).add j).block ≠ g := by simp [Addr.add_lit]; omega
    refine ⟨_, rfl, hne, ?_⟩
    rw [cell_far (p := ⟨g, i, none⟩) _ hne]
    simpa [Addr.add_lit] using c
  · obtain ⟨ai, ci, e1, e2⟩ := h.rows i (by omega)
    refine ⟨ai, ci, by simp [e, e1], fun j hj => ?_⟩
    obtain ⟨y, ey, hne, hc⟩ := e2 j hj
    refine ⟨y, ey, hne, ?_⟩
    rw [cell_far (p := ⟨g, t, none⟩) _ hne]
    exact (f.cell (p := y.add j) (World.block_lt_of_cell? _ _ hc)).trans hc

set_option maxRecDepth 100000 in
set_option maxHeartbeats 1000000 in
theorem cloneRows_some (x : Addr) (k c : Nat) (rs : Nat → List Int) (w : World) (hk : k ≤ 128) (hl : ∀ i, i < k → (rs i).length ≤ 128) (h : RwsI w (some x) k rs) :
    Calls Try.prog 18 #[.slice (some x) k c] w fun e w' => ∃ a' c', e = .returned (.slice a' k c') ∧ Rws w' a' k rs ∧ Fr (· < w.heap.size) w w' := by
  obtain ⟨i0, hi, hz0, hz1, hz2⟩ := info_parts Try.info22
  have he := fun (w : World) => Lib.run_eql_slice_nil (P := Try.prog) w 33 22 (some x) k c 0 0 Try.underlying33
  go_enter Try.func18, Try.ntmps18
  go_wp2_with (at_make; refine wpList_make_full _ rfl _ _ 33 rfl 0 22 i0 (.slice none 0 0) 1 Try.underlying33 hi hz0 hz1 _ _ _ _ k rfl rfl rfl rfl (by rw [hz2]; omega) (by unfold maxLen; omega) (Nat.zero_le _) ?_)
  intro w1 hown hg
  have I0 : CR w w1 w.heap.size k 0 rs (fun _ => .slice none 0 0) := by
    refine ⟨?_, fun i hi => by omega, Nat.le_refl _, (Fr.refl _ _).grown hg (fun _ h => h) (by simp)⟩
    unfold OwnV
    have e1 : (List.range k).map (fun _ => (Value.slice none 0 0)) = (madeCells #[Value.slice none 0 0] k).toList := by
      rw [toList_madeCells_one]
      apply List.ext_getElem <;> simp
    rw [e1]
    exact hown
  have HI0 := Hid.mk' I0
  clear hown hg I0 he hi hz0 hz1 hz2
  generalize hB : w.heap.size = B at *
  go_wp2
  go_loopw [4] (fun i wr => ∃ (t : Nat) (V : Nat → Value), t ≤ k ∧ i = .int .i64 t ∧ CR w wr B k t rs V) (fun i _ => k - (intOf i).toNat)
  case atStart => exact ⟨0, _, Nat.zero_le _, rfl, HI0.out⟩
  case round =>
    clear HI0
    obtain ⟨t, V, ht, rfl, I⟩ := hrel
    by_cases hlt : t < k
    · have hr := h.fr I.fr (fun _ e => by omega)
      obtain ⟨x', ai, ci, zs, ex, hc, hrow, htk⟩ := hr t hlt
      simp at ex
      subst ex
      have hlt2 := hl t hlt
      have HI := Hid.mk' I
      clear I hr
      have hst := fun a' c' w2 => HI.out.step (w2 := w2) (a' := a') (c' := c') hlt
      have HST := Hid.mk' hst
      clear hst HI
      generalize hrt : rs t = R0 at *
      generalize hRL : R0.length = RL at *
      go_wp2_with fail
      refine (clone_any hrow (by omega)).mono ?_
      rintro e w2 ⟨v, rfl, R, f, hob⟩
      obtain ⟨a', c', rfl⟩ := R.formS
      rw [htk] at R
      subst hRL
      obtain ⟨⟨u, hu⟩, hf, hC⟩ := HST.out a' c' w2 f R (by intro q hq; rcases hob with e | e <;> rw [e] at hq <;> simp at hq; omega)
      have HC := Hid.mk' hC
      clear hC HST R hrow hc f hob htk h
      generalize R0.length = RL at *
      go_wp2
      go_roundw
      case rel => exact ⟨t + 1, _, by omega, by go_num, HC.out⟩
      case measure => simp [intOf]; omega
    · have e : t = k := by omega
      subst e
      have HR : Hid (Rws wr (some ⟨B, 0, none⟩) t rs ∧ Fr (· < B) w wr) := by
        refine ⟨fun i hi => ?_, by rw [← hB]; exact I.fr⟩
        obtain ⟨ai, ci, e1, e2⟩ := I.rows i hi
        have c1 := (I.own.get i hi).1
        rw [e1] at c1
        refine ⟨⟨B, 0, none⟩, ai, ci, rfl, by simpa [Addr.add_lit] using c1, fun j hj => ?_⟩
        obtain ⟨y, ey, _, hy⟩ := e2 j hj
        exact ⟨y, ey, hy⟩
      clear I h
      go_wp2
      go_ret
      exact ⟨_, _, rfl, HR.out.1, by rw [hB]; exact HR.out.2⟩

theorem cloneRows_any (a : Option Addr) (k c : Nat) (rs : Nat → List Int) (w : World) (hk : k ≤ 128) (hl : ∀ i, i < k → (rs i).length ≤ 128) (h : RwsI w a k rs) (ha : (a = none ∧ k = 0 ∧ c = 0) ∨ ∃ x, a = some x) :
    Calls Try.prog 18 #[.slice a k c] w fun e w' => ∃ a' c', e = .returned (.slice a' k c') ∧ Rws w' a' k rs ∧ Fr (· < w.heap.size) w w' := by
  rcases ha with ⟨rfl, rfl, rfl⟩ | ⟨x, rfl⟩
  · have he := fun (w : World) => Lib.run_eql_slice_nil (P := Try.prog) w 33 22 none 0 0 0 0 Try.underlying33
    go_enter Try.func18, Try.ntmps18
    go_wp2
    go_ret
    exact ⟨_, _, rfl, fun i hi => by omega, Fr.refl _ _⟩
  · exact cloneRows_some x k c rs w hk hl h

/-- the needs, the ups, the waits, when i requests are laid -/
def ndx (n v : Nat) (d : Int) (rs : Nat → List Int) : Nat → List Int
  | 0 => (List.replicate n (0 : Int)).set v 1 ++ [d]
  | i + 1 => ndx n v d rs i ++ [((rs i).length : Int)]
def upx (n v : Nat) : Nat → List Int
  | 0 => List.replicate n (-1 : Int) ++ [(v : Int)]
  | i + 1 => upx n v i ++ [(n : Int)]
def wtx (n v i : Nat) (xs : List Int) : List (Int × Int × Int) := xs.map fun x => ((v : Int), x, ((n + 1 + i : Nat) : Int))
theorem wtx_snoc (n v i : Nat) (xs : List Int) (j : Nat) (hj : j < xs.length) : wtx n v i (xs.take (j + 1)) = wtx n v i (xs.take j) ++ [((v : Int), xs.getD j 0, ((n + 1 + i : Nat) : Int))] := by
  unfold wtx
  rw [List.take_succ_eq_append_getElem hj, List.map_append]
  simp [List.getD, hj]
def wsx (n v : Nat) (rs : Nat → List Int) : Nat → List (Int × Int × Int)
  | 0 => []
  | i + 1 => wsx n v rs i ++ wtx n v i (rs i)
theorem ndx_len (n v : Nat) (d : Int) (rs : Nat → List Int) : ∀ i, (ndx n v d rs i).length = n + 1 + i
  | 0 => by simp [ndx]
  | i + 1 => by simp [ndx, ndx_len n v d rs i]; omega
theorem upx_len (n v : Nat) : ∀ i, (upx n v i).length = n + 1 + i
  | 0 => by simp [upx]
  | i + 1 => by simp [upx, upx_len n v i]; omega
theorem wsx_len (n v : Nat) (rs : Nat → List Int) (k : Nat) (hl : ∀ i, i < k → (rs i).length ≤ 128) : ∀ i, i ≤ k → (wsx n v rs i).length ≤ 128 * i
  | 0, _ => by simp [wsx]
  | i + 1, hi => by
    have := wsx_len n v rs k hl i (by omega)
    have := hl i (by omega)
    simp [wsx, wtx]
    omega

set_option maxRecDepth 100000 in
set_option maxHeartbeats 1000000 in
theorem step_any (b n v : Nat) (spare : Int) (a : Option Addr) (k c : Nat) (rs : Nat → List Int) (W w : World) (hW : W.heap.size ≤ w.heap.size) (h : BS (· < W.heap.size) w b n (List.replicate n 0) (List.replicate n (-1)) []) (hfw : Fr (· < W.heap.size) W w) (hR : Rws W a k rs)
    (hv : v < n) (hn : n ≤ 1024) (hk : k ≤ 128) (hl : ∀ i, i < k → (rs i).length ≤ 128) (hs : -65536 ≤ spare ∧ spare ≤ 65536) :
    Calls Try.prog 24 #[.pointer (some ⟨b, 0, none⟩), .int .i64 v, .int .i64 spare, .slice a k c] w fun e w' => e = .returned (.tuple #[]) ∧ BS (· < W.heap.size) w' b n (ndx n v ((k : Int) - spare) rs k) (upx n v k) (wsx n v rs k) ∧ Fr (· < W.heap.size) W w' := by
  obtain ⟨hs1, hs2⟩ := hs
  go_enter Try.func24, Try.ntmps24
  have wks : IntKind.i64.wrap ((k : Int) - spare) = (k : Int) - spare := by rw [IntKind.wrap_i64]; omega
  have hg0 : (List.replicate n (0 : Int)).getD v 0 = 0 := by simp [List.getD, hv]
  go_wp2_with fail
  refine (req_lt _ b n _ _ _ v ((k : Int) - spare) w (fun q e => by omega) h hv (by simp) (by simp; omega) (by simp; omega) (by rw [hg0]; omega)).mono ?_
  rintro e w1 ⟨rfl, B1, f1⟩
  rw [hg0] at B1
  have HB : Hid (BS (· < W.heap.size) w1 b n (ndx n v ((k : Int) - spare) rs 0) (upx n v 0) (wsx n v rs 0)) := B1
  have HF : Hid (Fr (· < W.heap.size) W w1) := hfw.trans f1
  clear B1 f1 h hfw hg0 wks
  generalize hd : (k : Int) - spare = d at *
  have en : (((List.replicate n (0 : Int)).length : Nat) : Int) = (n : Int) := by simp
  rw [en]
  clear en
  generalize hB : W.heap.size = B at *
  go_wp2
  go_loopw [23] (fun i wr => ∃ t : Nat, t ≤ k ∧ i = .int .i64 t ∧ BS (· < B) wr b n (ndx n v d rs t) (upx n v t) (wsx n v rs t) ∧ Fr (· < B) W wr) (fun i _ => k - (intOf i).toNat)
  case atStart => exact ⟨0, Nat.zero_le _, rfl, HB.out, HF.out⟩
  case round =>
    clear HB HF
    obtain ⟨t, ht, rfl, HBS, f⟩ := hrel
    have hsz := f.size
    by_cases hlt : t < k
    · obtain ⟨x, ai, ci, rfl, hcW, hrow⟩ := hR t hlt
      have hc := (f.cell (p := x.add t) (by have := World.block_lt_of_cell? _ _ hcW; omega)).trans hcW
      clear hcW
      have hlr := hl t hlt
      have HRow := Hid.mk' hrow
      have HBS' := Hid.mk' HBS
      have Hf := Hid.mk' f
      have hw1 := wsx_len n v rs k hl t ht
      have HL := Hid.mk' hl
      clear HBS f hrow hl
      generalize hRL : (rs t).length = RL at *
      go_wp2_with fail
      refine (req_ge _ b n _ _ _ n (RL : Int) wr (fun q e => by omega) HBS'.out (Nat.le_refl _) (by rw [ndx_len]; omega) (by rw [upx_len]; omega)).mono ?_
      rintro e w2 ⟨rfl, B2, f2⟩
      rw [ndx_len]
      have HB2 : Hid (BS (· < B) w2 b n (ndx n v d rs (t + 1)) (upx n v (t + 1)) (wsx n v rs t ++ wtx n v t ((rs t).take 0))) := by
        have e1 : ndx n v d rs (t + 1) = ndx n v d rs t ++ [(RL : Int)] := by rw [← hRL]; rfl
        rw [e1]
        have B3 : BS (· < B) w2 b n (ndx n v d rs t ++ [(RL : Int)]) (upx n v (t + 1)) (wsx n v rs t ++ wtx n v t ((rs t).take 0)) := by simpa [wtx, upx] using B2
        exact B3
      have HF2 : Hid (Fr (· < B) W w2) := Hf.out.trans f2
      have HRL := Hid.mk' hRL
      clear B2 f2 HBS' Hf hRL hc
      go_wp2
      go_loopw [34] (fun i wr => ∃ j : Nat, j ≤ RL ∧ i = .int .i64 j ∧ BS (· < B) wr b n (ndx n v d rs (t + 1)) (upx n v (t + 1)) (wsx n v rs t ++ wtx n v t ((rs t).take j)) ∧ Fr (· < B) W wr) (fun i _ => RL - (intOf i).toNat)
      case atStart => exact ⟨0, Nat.zero_le _, rfl, HB2.out, HF2.out⟩
      case round =>
        clear HB2 HF2
        obtain ⟨j, hj, rfl, HBS, f⟩ := hrel
        have hsz2 := f.size
        by_cases hjl : j < RL
        · obtain ⟨y, rfl, hyW⟩ := HRow.out j hjl
          have hy := (f.cell (p := y.add j) (by have := World.block_lt_of_cell? _ _ hyW; omega)).trans hyW
          clear hyW
          have HT : Hid (wsx n v rs t ++ wtx n v t ((rs t).take (j + 1)) = (wsx n v rs t ++ wtx n v t ((rs t).take j)) ++ [((v : Int), (rs t).getD j 0, ((n + 1 + t : Nat) : Int))]) := by
            rw [wtx_snoc n v t (rs t) j (by rw [HRL.out]; exact hjl), List.append_assoc]
            exact rfl
          have hwl : (wsx n v rs t ++ wtx n v t ((rs t).take j)).length ≤ 1048576 := by
            simp [wtx]
            omega
          have HB3 := Hid.mk' HBS
          have HF3 := Hid.mk' f
          clear HBS f HL hR HRow
          generalize (rs t).getD j 0 = z at *
          go_wp2_with fail
          refine (wait_ge _ b n _ _ _ (v : Int) z (n + 1 + t) wr (fun q e => by omega) HB3.out (by omega) hwl).mono ?_
          rintro e w3 ⟨rfl, B3, f3⟩
          have HE : Hid (BS (· < B) w3 b n (ndx n v d rs (t + 1)) (upx n v (t + 1)) (wsx n v rs t ++ wtx n v t ((rs t).take (j + 1))) ∧ Fr (· < B) W w3) := by
            rw [HT.out]
            exact ⟨B3, HF3.out.trans f3⟩
          clear B3 f3 HB3 HF3 HT hy hwl
          go_wp2
          go_roundw
          case rel => exact ⟨j + 1, by omega, by go_num, HE.out.1, HE.out.2⟩
          case measure => simp [intOf]; omega
        · have e : j = RL := by omega
          subst e
          have HE : Hid (BS (· < B) wr b n (ndx n v d rs (t + 1)) (upx n v (t + 1)) (wsx n v rs (t + 1)) ∧ Fr (· < B) W wr) := by
            rw [← HRL.out, List.take_length] at HBS
            exact ⟨HBS, f⟩
          clear HBS f hR HL
          go_wp2
          go_roundw
          case rel => exact ⟨t + 1, by omega, by go_num, HE.out.1, HE.out.2⟩
          case measure => simp [intOf]; omega
    · have e : t = k := by omega
      subst e
      have HE := Hid.mk' (And.intro HBS f)
      clear HBS f hR hl
      go_wp2
      go_end0
      exact ⟨rfl, HE.out.1, HE.out.2⟩

end Go.Proofs.Qxb6003672a

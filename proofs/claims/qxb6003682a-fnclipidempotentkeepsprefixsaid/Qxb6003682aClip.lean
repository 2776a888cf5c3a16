import Derived.Test.Qxb6003682aLeaf
import Derived.Lib.AppendStr
import Derived.WalkLawsBesides
import Derived.Deep.QuietTactic
import Derived.BigQuiet
import Derived.Deep.DeepCutAuto
import Derived.Deep.CutBlock
namespace Go.Proofs.Qxb6003682a
open Go.RowKit
set_option linter.unusedVariables false

/-- zzSameBytes on equal rows -/
theorem same_any (a1 : Option Addr) (n c1 : Nat) (a2 : Option Addr) (c2 : Nat) (Z : Nat → Int) (w : World) (hn : n ≤ 1048576) (h1 : Cel w a1 n c1 (fun i => .int .u8 (Z i))) (h2 : Cel w a2 n c2 (fun i => .int .u8 (Z i))) :
    Calls Try.prog 23 #[.slice a1 n c1, .slice a2 n c2] w fun e w' => e = .returned (.bool true) ∧ ∃ q, w.drewN q = w' := by
  have g1 := h1.get
  have g2 := h2.get
  clear h1 h2
  go_enter Try.func23, Try.ntmps23
  go_wp2
  go_loopw [5] (fun i wr => ∃ k q : Nat, k ≤ n ∧ i = .int .i64 k ∧ w.drewN q = wr) (fun i _ => n - (intOf i).toNat)
  case atStart => exact ⟨0, 0, Nat.zero_le _, rfl, rfl⟩
  case round =>
    obtain ⟨k, q, hk, rfl, rfl⟩ := hrel
    by_cases hlt : k < n
    · obtain ⟨p1, rfl, e1⟩ := g1 k hlt
      obtain ⟨p2, rfl, e2⟩ := g2 k hlt
      have f1 : ∀ m, (w.drewN m).cell? (p1.add k) = some (.int .u8 (Z k)) := fun m => by rw [World.cell?_drewN]; exact e1
      have f2 : ∀ m, (w.drewN m).cell? (p2.add k) = some (.int .u8 (Z k)) := fun m => by rw [World.cell?_drewN]; exact e2
      clear g1 g2 e1 e2
      generalize Z k = z at *
      go_wp2
      go_quiet (fail)
      go_wp2
      go_roundw
      case rel => exact ⟨k + 1, _, by omega, by go_num, rfl⟩
      case measure => simp [intOf]; omega
    · have e : k = n := by omega
      subst e
      go_wp2
      go_ret
      exact ⟨rfl, _, rfl⟩

theorem clip_le (a : Option Addr) (n c : Nat) (w : World) (hn : n ≤ 40) : Calls Try.prog 22 #[.slice a n c] w fun e w' => e = .returned (.slice a n c) ∧ w = w' := by
  have h : Calls Try.prog 26 #[.slice a n c] w fun e w' => e = .returned (.slice a n c) ∧ w = w' := by
    go_enter Try.func26, Try.ntmps26
    go_wp2
    go_ret
    exact ⟨rfl, rfl⟩
  go_enter Try.func22, Try.ntmps22
  go_wp2_with fail
  refine h.mono ?_
  rintro e w' ⟨rfl, rfl⟩
  go_wp2
  go_ret
  exact ⟨rfl, rfl⟩

theorem wpList_append_run {P : Program} {ops : Array Oper} {rest : List Oper} {o : Oper} {a : Act} {w : World} {Q : Exit → Act → World → Prop} (hgd : o.guard = none) (sl x : Operand) (t u : TypeId)
    (ho : o.op = .call { callee := .builtin .append, args := #[sl, x], argTypes := #[t, u] }) (v : Value) (s : ByteArray) (hs : a.eval sl = v) (hx : a.eval x = .string s) (v' : Value) (w' : World)
    (hr : (Builtin.append_ #[t, u] o.type #[v, .string s]).run P w = .ok v' w') (h : wpList P ops Q rest (a.put o.dst v') w') : wpList P ops Q (o :: rest) a w := by
  refine wpList_plain hgd fun K hK => ?_
  unfold Oper.wp execOp
  simp only [ho, resolve, invoke, builtin, Sem.run_bind, Sem.run_pure, Result.andThen_ok, List.map_toArray, List.map_cons, List.map_nil, hs, hx, hr]
  exact hK _ _ h

/-- what clip makes of a long row -/
def cz (Z : Nat → Int) (i : Nat) : Int := if i < 40 then Z i else 46

theorem nsc : Builtin.nextslicecap 43 40 ≤ 281474976710656 := by decide

set_option maxHeartbeats 400000 in
theorem clip_gt (x : Addr) (n c : Nat) (Z : Nat → Int) (w : World) (h40 : 40 < n) (hnc : n ≤ c) (hc : c ≤ maxLen) (h1 : ∀ i, i < n → w.cell? (x.add i) = some (.int .u8 (Z i))) :
    Calls Try.prog 26 #[.slice (some x) n c] w fun e w' => ∃ C, e = .returned (.slice (some ⟨w.heap.size, 0, none⟩) 43 C) ∧ 43 ≤ C ∧ C ≤ maxLen ∧ Cel w' (some ⟨w.heap.size, 0, none⟩) 43 C (fun i => .int .u8 (cz Z i)) ∧ Fr (· < w.heap.size) w w' := by
  obtain ⟨i0, hi, hz0, hz1, hz2⟩ := info_parts Try.info5
  have hr := fun ty => Lib.run_append_grow_string (P := Try.prog) w 46 9 ty 5 i0 (.int .u8 0) Try.underlying46 Try.underlying9 hi hz0 x 40 40 ((List.range 40).map fun i => .int .u8 (Z i)) (by simp [hz1]) (by
    intro j v hv
    have hj : j < 40 := by have := (List.getElem?_eq_some_iff.1 hv).1; simpa using this
    have h2 : ((List.range 40).map fun i => Value.int .u8 (Z i))[j]? = some (.int .u8 (Z j)) := by simp [hj]
    rw [h2] at hv
    rw [h1 j (by omega), ← hv]) ⟨#[46, 46, 46]⟩ (by decide) (by decide) (by rw [hz2]; exact Nat.le_trans (Nat.le_of_eq (Nat.mul_one _)) nsc)
  have hge := grownCap_ge w 43 40 5
  have hle := grownCap_le_maxLen w 43 40 5 (by decide)
  unfold maxLen at hc
  have e43 : 40 + (⟨#[46, 46, 46]⟩ : ByteArray).size = 43 := rfl
  simp only [e43] at hr
  generalize hC : grownCap w 43 40 5 = C at *
  have ha : ∀ i, i < 43 → (((List.range 40).map fun i => Value.int .u8 (Z i)).toArray ++ (Lib.strCells ⟨#[46, 46, 46]⟩).toArray ++ Builtin.zeroCells (Value.int .u8 0).cells (C - 43))[i]? = some (.int .u8 (cz Z i)) := by
    intro i hi
    rw [Array.getElem?_append_left (by simp [Lib.strCells_length]; exact hi)]
    unfold cz
    by_cases h : i < 40
    · rw [Array.getElem?_append_left (by simpa using h), if_pos h]
      simp [h]
    · rw [Array.getElem?_append_right (by simp; omega), if_neg h]
      have : i = 40 ∨ i = 41 ∨ i = 42 := by omega
      rcases this with rfl | rfl | rfl <;> rfl
  generalize (((List.range 40).map fun i => Value.int .u8 (Z i)).toArray ++ (Lib.strCells ⟨#[46, 46, 46]⟩).toArray ++ Builtin.zeroCells (Value.int .u8 0).cells (C - 43)) = arr at *
  have HR : Hid (Cel (w.drew.alloc (.cells arr 5)) (some ⟨w.heap.size, 0, none⟩) 43 C (fun i => .int .u8 (cz Z i)) ∧ Fr (· < w.heap.size) w (w.drew.alloc (.cells arr 5))) := by
    refine ⟨.inr ⟨_, rfl, fun i hi => ?_⟩, ((Fr.refl _ w).drew).alloc (fun _ h => h) _⟩
    rw [show (⟨w.heap.size, 0, none⟩ : Addr).add i = ⟨w.heap.size, i, none⟩ by simp [Addr.add_lit]]
    exact (World.cell?_alloc_new (w := w.drew) arr 5 i).trans (ha i hi)
  generalize hW : w.drew.alloc (.cells arr 5) = W at *
  clear ha hW h1 hC hz0 hz1 hz2 hi
  go_enter Try.func26, Try.ntmps26
  have HRR := Hid.mk hr
  clear hr
  go_wp2_with (at_builtin; refine wpList_append_run rfl _ _ 46 9 rfl _ _ rfl rfl _ _ (HRR.out _) ?_)
  go_wp2
  go_ret
  exact ⟨C, rfl, hge, hle, HR.out.1, HR.out.2⟩

theorem Fr.drewN {F : Nat → Prop} {a w : World} (h : Fr F a w) (n : Nat) : Fr F a (w.drewN n) := ⟨h.os, h.tape, h.output, h.size, h.block⟩
theorem Cel.drewN {w : World} {a : Option Addr} {len cap : Nat} {V : Nat → Value} (h : Cel w a len cap V) (n : Nat) : Cel (w.drewN n) a len cap V := by
  rcases h with h | ⟨x, e, hc⟩
  · exact .inl h
  · exact .inr ⟨x, e, fun i hi => by rw [World.cell?_drewN]; exact hc i hi⟩

theorem bytes20 (a1 : Option Addr) (l1 c1 : Nat) (w : World) (h1 : l1 ≤ 9223372036854775807) :
    Calls Try.prog 20 #[.slice a1 l1 c1] w fun e w' => (∃ b, e = .returned (.bool b)) ∧ w = w' := by
  go_enter Try.func20, Try.ntmps20
  go_wp2
  all_goals (go_ret; exact ⟨⟨_, rfl⟩, rfl⟩)

theorem zzclip_gt (x : Addr) (n c : Nat) (Z : Nat → Int) (w : World) (h40 : 40 < n) (hnc : n ≤ c) (hc : c ≤ maxLen) (h1 : ∀ i, i < n → w.cell? (x.add i) = some (.int .u8 (Z i))) :
    Calls Try.prog 22 #[.slice (some x) n c] w fun e w' => ∃ C, e = .returned (.slice (some ⟨w.heap.size, 0, none⟩) 43 C) ∧ 43 ≤ C ∧ C ≤ maxLen ∧ Cel w' (some ⟨w.heap.size, 0, none⟩) 43 C (fun i => .int .u8 (cz Z i)) ∧ Fr (· < w.heap.size) w w' := by
  go_enter Try.func22, Try.ntmps22
  go_wp2_with fail
  refine (clip_gt x n c Z w h40 hnc hc h1).mono ?_
  rintro e w' ⟨C, rfl, h2, h3, h4, h5⟩
  have H := Hid.mk (And.intro h2 (And.intro h3 (And.intro h4 h5)))
  clear h1 h2 h3 h4 h5
  go_wp2
  go_ret
  exact ⟨C, rfl, H.out⟩

theorem Own.room {w : World} {e : TypeId} {a : Option Addr} {len cap : Nat} {V : Nat → Value} (h : Own w e a len cap V) (h0 : 0 < len) : len ≤ cap ∧ cap ≤ maxLen := by
  rcases h.2 with ⟨h1, h2⟩ | ⟨g, c, cur, h1, h2, h3, h4, h5, _⟩
  · omega
  · simp at h1
    obtain ⟨_, rfl⟩ := h1
    exact ⟨h4, h5⟩

set_option maxRecDepth 100000 in
set_option maxHeartbeats 1000000 in
theorem law6_le (a0 : Option Addr) (l0 cap0 : Nat) (z0 : Nat → Int) (w : World) (w0 : Cel w a0 l0 cap0 (fun i => .int .u8 (z0 i))) (hm : l0 ≤ 40) :
    Calls Try.prog 6 #[.slice a0 l0 cap0] w fun e w' => e = .returned (.bool true) ∧ Below w.heap.size w w' := by
  go_enter Try.func6, Try.ntmps6
  go_wp2_with fail
  refine (bytes20 _ _ _ _ (by omega)).mono ?_
  rintro e w' ⟨⟨bb, rfl⟩, rfl⟩
  cases bb
  · go_wp2
    go_ret
    exact ⟨rfl, Below.refl _ _⟩
  go_wp2_with fail
  refine (cloneBy_any w0 (by omega) (fun i => rfl)).mono ?_
  rintro e wA ⟨aU, cU, rfl, oU, nU, fA⟩
  have kU := oU.cel
  clear w0
  go_wp2_with fail
  refine (cloneBy_any kU (by omega) (fun i => rfl)).mono ?_
  rintro e wB ⟨aX, cX, rfl, oX, nX, fB⟩
  have kU2 := (oU.frN fB).cel
  have kX := oX.cel
  have fAB : Fr (· < w.heap.size) w wB := fA.trans (fB.mono (fun k h => Nat.lt_of_lt_of_le h fA.size))
  clear kU oU oX nU nX fA fB
  go_wp2_with fail
  refine (clip_le _ _ _ _ hm).mono ?_
  rintro e w' ⟨rfl, rfl⟩
  go_wp2_with fail
  refine (same_any _ _ _ _ _ z0 _ (by omega) kU2 kX).mono ?_
  rintro e w' ⟨rfl, q1, rfl⟩
  go_wp2_with fail
  refine (same_any _ _ _ _ _ z0 _ (by omega) (kU2.drewN q1) (kU2.drewN q1)).mono ?_
  rintro e w' ⟨rfl, q2, rfl⟩
  go_wp2_with fail
  refine (clip_le _ _ _ _ hm).mono ?_
  rintro e w' ⟨rfl, rfl⟩
  go_wp2_with fail
  refine (same_any _ _ _ _ _ z0 _ (by omega) (kU2.drewN _) (kU2.drewN _)).mono ?_
  rintro e w' ⟨rfl, q3, rfl⟩
  go_wp2_with fail
  refine (same_any _ _ _ _ _ z0 _ (by omega) (kU2.drewN _) (kX.drewN _)).mono ?_
  rintro e w' ⟨rfl, q4, rfl⟩
  have H := Hid.mk (fun q => (fAB.drewN q).below)
  clear kU2 kX fAB
  go_wp2
  go_ret
  exact ⟨rfl, H.out _⟩

set_option maxRecDepth 100000 in
set_option maxHeartbeats 1000000 in
theorem law6_gt (a0 : Option Addr) (l0 cap0 : Nat) (z0 : Nat → Int) (w : World) (w0 : Cel w a0 l0 cap0 (fun i => .int .u8 (z0 i))) (h40 : 40 < l0) (hm : l0 ≤ 1048576) :
    Calls Try.prog 6 #[.slice a0 l0 cap0] w fun e w' => e = .returned (.bool true) ∧ Below w.heap.size w w' := by
  go_enter Try.func6, Try.ntmps6
  go_wp2_with fail
  refine (bytes20 _ _ _ _ (by omega)).mono ?_
  rintro e w' ⟨⟨bb, rfl⟩, rfl⟩
  cases bb
  · go_wp2
    go_ret
    exact ⟨rfl, Below.refl _ _⟩
  go_wp2_with fail
  refine (cloneBy_any w0 (by omega) (fun i => rfl)).mono ?_
  rintro e wA ⟨aU, cU, rfl, oU, nU, fA⟩
  have kU := oU.cel
  obtain ⟨rU1, rU2⟩ := oU.room (by omega)
  clear w0
  go_wp2_with fail
  refine (cloneBy_any kU (by omega) (fun i => rfl)).mono ?_
  rintro e wB ⟨aX, cX, rfl, oX, nX, fB⟩
  have kU2 := (oU.frN fB).cel
  have kX := oX.cel
  have fAB : Fr (· < w.heap.size) w wB := fA.trans (fB.mono (fun k h => Nat.lt_of_lt_of_le h fA.size))
  clear kU oU oX nU nX fA fB
  rcases kU2 with ⟨_, h, _⟩ | ⟨xU, rfl, cUs⟩
  · omega
  go_wp2_with fail
  refine (zzclip_gt xU l0 cU z0 wB h40 rU1 rU2 cUs).mono ?_
  rintro e wC ⟨C, rfl, C1, C2, kC, fC⟩
  have kU3 : Cel wC (some xU) l0 cU (fun i => .int .u8 (z0 i)) := Cel.fr (.inr ⟨xU, rfl, cUs⟩) fC (fun _ h => h)
  have kX3 := kX.fr fC (fun _ h => h)
  have fAC : Fr (· < w.heap.size) w wC := fAB.trans (fC.mono (fun k h => Nat.lt_of_lt_of_le h fAB.size))
  clear cUs kX fAB fC
  generalize wB.heap.size = g at *
  go_wp2_with fail
  refine (same_any _ _ _ _ _ z0 _ (by omega) kU3 kX3).mono ?_
  rintro e w' ⟨rfl, q1, rfl⟩
  go_upto_block 0 with fail
  go_cut [2] (fun s2 wt => ∃ q, wC.drewN q = wt)
  case first =>
    have g1 := kC.get
    have g2 := kU3.get
    clear kC kU3 kX3 fAC rU2 C2
    go_wp2
    go_loopw [5] (fun i wr => ∃ k q : Nat, k ≤ 40 ∧ i = .int .i64 k ∧ wC.drewN q = wr) (fun i _ => 40 - (intOf i).toNat)
    case atStart => exact ⟨0, q1, Nat.zero_le _, rfl, rfl⟩
    case round =>
      obtain ⟨k, q, hk, rfl, rfl⟩ := hrel
      by_cases hlt : k < 40
      · obtain ⟨p1, e0, e1⟩ := g1 k (by omega)
        obtain ⟨p2, e3, e2⟩ := g2 k (by omega)
        simp at e0 e3
        subst e0 e3
        have ez : cz z0 k = z0 k := by unfold cz; rw [if_pos hlt]
        rw [ez] at e1
        have f1 : ∀ m, (wC.drewN m).cell? ⟨g, k, none⟩ = some (.int .u8 (z0 k)) := fun m => by rw [World.cell?_drewN]; rw [← e1]; simp [Addr.add_lit]
        have f2 : ∀ m, (wC.drewN m).cell? (xU.add k) = some (.int .u8 (z0 k)) := fun m => by rw [World.cell?_drewN]; exact e2
        clear g1 g2 e1 e2 ez
        generalize z0 k = z at *
        go_wp2
        go_quiet (fail)
        go_wp2
        go_roundw
        case rel => exact ⟨k + 1, _, by omega, by go_num, rfl⟩
        case measure => simp [intOf]; omega
      · have e : k = 40 := by omega
        subst e
        go_wp2
        go_meet
        case rel => exact ⟨_, rfl⟩
  case rest =>
    obtain ⟨q, rfl⟩ := hcut
    have kC' := kC.drewN q
    have kU' := kU3.drewN q
    have kX' := kX3.drewN q
    have fq := fAC.drewN q
    clear kC kU3 kX3 fAC
    generalize wC.drewN q = wT at *
    rcases kC' with ⟨h, _⟩ | ⟨x, e, cs⟩
    · cases h
    simp at e
    subst e
    have d40 : wT.cell? ⟨g, 40, none⟩ = some (.int .u8 46) := cs 40 (by omega)
    have d41 : wT.cell? ⟨g, 41, none⟩ = some (.int .u8 46) := cs 41 (by omega)
    have d42 : wT.cell? ⟨g, 42, none⟩ = some (.int .u8 46) := cs 42 (by omega)
    have HH := Hid.mk (And.intro cs (And.intro kU' (And.intro kX' fq)))
    clear cs kU' kX' fq
    go_wp2_with fail
    obtain ⟨cs, kU', kX', fq⟩ := HH.out
    clear d40 d41 d42 HH
    refine (zzclip_gt ⟨g, 0, none⟩ 43 C (cz z0) wT (by omega) C1 C2 cs).mono ?_
    rintro e wD ⟨C', rfl, C1', C2', kD, fD⟩
    have kC4 : Cel wD (some ⟨g, 0, none⟩) 43 C (fun i => .int .u8 (cz z0 i)) := Cel.fr (.inr ⟨_, rfl, cs⟩) fD (fun _ h => h)
    have kU4 := kU'.fr fD (fun _ h => h)
    have kX4 := kX'.fr fD (fun _ h => h)
    have f4 : Fr (· < w.heap.size) w wD := fq.trans (fD.mono (fun k h => Nat.lt_of_lt_of_le h fq.size))
    have ecz : (fun i => Value.int .u8 (cz (cz z0) i)) = fun i => .int .u8 (cz z0 i) := by
      funext i
      unfold cz
      by_cases h : i < 40
      · simp [h]
      · simp [h]
    rw [ecz] at kD
    clear cs kU' kX' fq fD ecz
    generalize wT.heap.size = g2 at *
    go_wp2_with fail
    refine (same_any _ _ _ _ _ (cz z0) _ (by omega) kD kC4).mono ?_
    rintro e w' ⟨rfl, q3, rfl⟩
    go_wp2_with fail
    refine (same_any _ _ _ _ _ z0 _ (by omega) (kU4.drewN _) (kX4.drewN _)).mono ?_
    rintro e w' ⟨rfl, q4, rfl⟩
    have H := Hid.mk (fun q => (f4.drewN q).below)
    clear kU4 kX4 kC4 kD f4
    go_wp2
    go_ret
    exact ⟨rfl, H.out _⟩

theorem law6 (a0 : Option Addr) (l0 cap0 : Nat) (z0 : Nat → Int) (w : World) (w0 : Cel w a0 l0 cap0 (fun i => .int .u8 (z0 i))) (hm : l0 ≤ 1048576) :
    Calls Try.prog 6 #[.slice a0 l0 cap0] w fun e w' => e = .returned (.bool true) ∧ Below w.heap.size w w' := by
  by_cases h : l0 ≤ 40
  · exact law6_le a0 l0 cap0 z0 w w0 h
  · exact law6_gt a0 l0 cap0 z0 w w0 (by omega) hm

end Go.Proofs.Qxb6003682a

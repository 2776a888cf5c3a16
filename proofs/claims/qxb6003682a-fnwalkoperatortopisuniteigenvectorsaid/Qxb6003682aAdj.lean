import Derived.Test.Qxb6003682aLeaf
import Derived.Deep.AppendLies
import Derived.WalkLawsBesides
import Derived.Deep.QuietTactic
import Derived.BigQuiet
import Derived.Deep.DeepCutAuto
import Derived.Deep.CutBlock
namespace Go.Proofs.Qxb6003682a
open Go.RowKit
set_option linter.unusedVariables false

/-- the pair i, j is linked: the mask's cell in the upper triangle is there and set -/
def lk (M : Nat → Bool) (lm n i j : Nat) : Bool := decide (min i j * n + max i j < lm) && M (min i j * n + max i j)
theorem lk_comm (M : Nat → Bool) (lm n i j : Nat) : lk M lm n i j = lk M lm n j i := by unfold lk; rw [Nat.min_comm, Nat.max_comm]

theorem mul_bd {a n : Nat} (ha : a < n) (hn : n ≤ 64) : a * n ≤ 4096 := Nat.le_trans (Nat.mul_le_mul (by omega : a ≤ 64) hn) (by decide)

theorem linked_lt (a : Option Addr) (lm cap : Nat) (M : Nat → Bool) (n i j x y : Nat) (w : World) (hx : x < n) (hy : y < n) (hn : n ≤ 64) (h : Cel w a lm cap (fun p => .bool (M p))) (hij : (i = x ∧ j = y ∧ x ≤ y) ∨ (i = y ∧ j = x ∧ x < y)) :
    Calls Try.prog 13 #[.slice a lm cap, .int .i64 n, .int .i64 i, .int .i64 j] w fun e w' => e = .returned (.bool (decide (x * n + y < lm) && M (x * n + y))) ∧ w = w' := by
  have b := mul_bd hx hn
  have g := h.get (x * n + y)
  clear h
  have e1 : (x : Int) * (n : Int) = ((x * n : Nat) : Int) := by push_cast; rfl
  generalize hp : x * n = p at *
  clear hp
  have w1 : IntKind.i64.wrap ((p : Nat) : Int) = (p : Int) := by rw [IntKind.wrap_i64]; omega
  have w2 : IntKind.i64.wrap ((p : Int) + (y : Int)) = ((p + y : Nat) : Int) := by rw [IntKind.wrap_i64]; omega
  generalize hq : p + y = q at *
  by_cases hlt : q < lm
  · obtain ⟨z, rfl, hc⟩ := g hlt
    rcases hij with ⟨rfl, rfl, hij⟩ | ⟨rfl, rfl, hij⟩
    · clear hq
      go_enter Try.func13, Try.ntmps13
      go_wp2
      go_ret
      exact ⟨by simp [hlt], rfl⟩
    · clear hq
      go_enter Try.func13, Try.ntmps13
      go_wp2
      go_ret
      exact ⟨by simp [hlt], rfl⟩
  · clear g
    rcases hij with ⟨rfl, rfl, hij⟩ | ⟨rfl, rfl, hij⟩
    · clear hq
      go_enter Try.func13, Try.ntmps13
      go_wp2
      go_ret
      exact ⟨by simp [hlt], rfl⟩
    · clear hq
      go_enter Try.func13, Try.ntmps13
      go_wp2
      go_ret
      exact ⟨by simp [hlt], rfl⟩

theorem linked_any (a : Option Addr) (lm cap : Nat) (M : Nat → Bool) (n i j : Nat) (w : World) (hi : i < n) (hj : j < n) (hn : n ≤ 64) (h : Cel w a lm cap (fun p => .bool (M p))) :
    Calls Try.prog 13 #[.slice a lm cap, .int .i64 n, .int .i64 i, .int .i64 j] w fun e w' => e = .returned (.bool (lk M lm n i j)) ∧ w = w' := by
  unfold lk
  by_cases c : i ≤ j
  · rw [Nat.min_eq_left c, Nat.max_eq_right c]
    exact linked_lt a lm cap M n i j i j w hi hj hn h (.inl ⟨rfl, rfl, c⟩)
  · rw [Nat.min_eq_right (by omega), Nat.max_eq_left (by omega)]
    exact linked_lt a lm cap M n i j j i w hj hi hn h (.inr ⟨rfl, rfl, by omega⟩)

/-- the neighbours of i below m -/
def rowL (L : Nat → Nat → Bool) (i m : Nat) : List Nat := (List.range m).filter (fun j => decide (j ≠ i) && L i j)
/-- the neighbour lists of the first i nodes -/
def adjL (L : Nat → Nat → Bool) (n : Nat) : Nat → List Nat
  | 0 => []
  | i + 1 => adjL L n i ++ rowL L i n
theorem rowL_succ (L : Nat → Nat → Bool) (i m : Nat) : rowL L i (m + 1) = rowL L i m ++ (if (decide (m ≠ i) && L i m) = true then [m] else []) := by
  unfold rowL
  rw [List.range_succ, List.filter_append]
  congr 1
  by_cases h : (decide (m ≠ i) && L i m) = true
  · rw [if_pos h]; exact List.filter_cons_of_pos (p := fun j => decide (j ≠ i) && L i j) h
  · rw [if_neg h]; exact List.filter_cons_of_neg (p := fun j => decide (j ≠ i) && L i j) h
theorem rowL_len (L : Nat → Nat → Bool) (i m : Nat) : (rowL L i m).length ≤ m := by
  unfold rowL
  exact Nat.le_trans (List.length_filter_le _ _) (by simp)
theorem adjL_len (L : Nat → Nat → Bool) (n : Nat) : ∀ i, (adjL L n i).length ≤ i * n
  | 0 => by simp [adjL]
  | i + 1 => by
    have h1 := adjL_len L n i
    have h2 := rowL_len L i n
    have e : (i + 1) * n = i * n + n := Nat.succ_mul i n
    simp only [adjL, List.length_append]
    omega
theorem adjL_le (L : Nat → Nat → Bool) (n i : Nat) (hi : i ≤ n) (hn : n ≤ 64) : (adjL L n i).length ≤ 4096 :=
  Nat.le_trans (adjL_len L n i) (Nat.le_trans (Nat.mul_le_mul (by omega : i ≤ 64) hn) (by decide))

theorem Try.info3 : (Try.prog.info? 3).map (fun i => (i.zero, i.size, i.bytes)) = some (some (.int .i64 0), 1, 8) := by kernel_rfl

theorem made_own {w : World} {e : TypeId} {z : Value} {g n : Nat} (h : w.ownsRow 0 e 1 (.slice (some ⟨g, 0, none⟩) n n) n (madeCells #[z] n).toList) : Own w e (some ⟨g, 0, none⟩) n n (fun _ => z) := by
  unfold Own
  rw [toList_madeCells_one] at h
  have e1 : (List.range n).map (fun _ => z) = List.replicate n z := by
    apply List.ext_getElem <;> simp
  rw [e1]
  exact h

/-- the offsets, when i rows are laid -/
def offV (L : Nat → Nat → Bool) (n i p : Nat) : Value := .int .i64 (if p ≤ i then ((adjL L n p).length : Int) else 0)
def i32s (xs : List Nat) : List Value := xs.map fun (j : Nat) => .int .i32 (j : Int)

structure AI (B : Nat) (w wr : World) (L : Nat → Nat → Bool) (n i : Nat) (xs : List Nat) (gO gA cA : Nat) : Prop where
  off : Own wr 3 (some ⟨gO, 0, none⟩) (n + 1) (n + 1) (offV L n i)
  adj : wr.ownsRow 0 21 1 (.slice (some ⟨gA, 0, none⟩) xs.length cA) xs.length (i32s xs)
  ne : gO ≠ gA
  lo : B ≤ gO
  la : B ≤ gA
  fr : Fr (· < B) w wr

theorem one_new (w : World) (x : Value) (t : TypeId) (H : Nat) (hH : w.heap.size = H) : ∀ j u, [x][j]? = some u → (w.alloc (.cells #[x] t)).cell? ((⟨H, 0, none⟩ : Addr).add j) = some u := by
  subst hH
  exact cell_one_new w x t

theorem AI.push {B : Nat} {w wr w2 : World} {L : Nat → Nat → Bool} {n i : Nat} {xs : List Nat} {gO gA cA : Nat} (h : AI B w wr L n i xs gO gA cA) (hB : B ≤ wr.heap.size) {o : Obj} {j G C : Nat}
    (hown : w2.ownsRow 0 21 1 (.slice (some ⟨G, 0, none⟩) (xs.length + 1) C) (xs.length + 1) (i32s xs ++ [.int .i32 (j : Int)])) (hg : (wr.alloc o).grownBy w2 (some gA)) (hat : gA = G ∨ G = wr.heap.size + 1) : AI B w w2 L n i (xs ++ [j]) gO G C := by
  have lO := own_lt h.off (g := gO) rfl
  have f1 : Fr (fun k => k < wr.heap.size ∧ k ≠ gA) wr w2 := Fr.grown ((Fr.refl _ wr).alloc (fun k h => h.1) o) hg (fun k h => by simp; omega) (fun k e => by cases e; simp)
  refine ⟨h.off.fr f1 (fun k e => ?_), ?_, ?_, h.lo, ?_, h.fr.trans (f1.mono fun k hk => ⟨by omega, by have := h.la; omega⟩)⟩
  · simp [Value.ownBlock] at e
    subst e
    exact ⟨lO, h.ne⟩
  · simpa [i32s] using hown
  · rcases hat with rfl | e
    · exact h.ne
    · omega
  · rcases hat with rfl | e
    · exact h.la
    · omega

theorem AI.store {B : Nat} {w wr : World} {L : Nat → Nat → Bool} {n i : Nat} {gO gA cA : Nat} (h : AI B w wr L n i (adjL L n i ++ rowL L i n) gO gA cA) (x : Int) (hx : x = ((adjL L n i ++ rowL L i n).length : Int)) :
    AI B w (wr.setCell ⟨gO, i + 1, none⟩ (.int .i64 x)) L n (i + 1) (adjL L n (i + 1)) gO gA cA := by
  subst hx
  refine ⟨h.off.set (i + 1) _ (fun p hp => ?_), ?_, h.ne, h.lo, h.la, h.fr.setCell (p := ⟨gO, i + 1, none⟩) (by have := h.lo; simp; omega) _⟩
  · unfold offV
    by_cases e : p = i + 1
    · subst e
      rw [if_pos rfl, if_pos (Nat.le_refl _)]
      rfl
    · rw [if_neg e]
      by_cases e2 : p ≤ i
      · rw [if_pos (by omega), if_pos e2]
      · rw [if_neg (by omega), if_neg e2]
  · exact own_keep h.adj (fun k e => by simp [Value.ownBlock] at e; subst e; exact Below.heap_setCell _ _ _ _ h.ne.symm)

set_option maxRecDepth 100000 in
set_option maxHeartbeats 1000000 in
theorem adj_any (a : Option Addr) (lm cap : Nat) (M : Nat → Bool) (n : Nat) (w : World) (hn : n ≤ 64) (h : Cel w a lm cap (fun p => .bool (M p))) :
    Calls Try.prog 10 #[.int .i64 n, .slice a lm cap] w fun e w' => ∃ gO gA cA, e = .returned (.tuple #[.slice (some ⟨gO, 0, none⟩) (n + 1) (n + 1), .slice (some ⟨gA, 0, none⟩) (adjL (lk M lm n) n n).length cA]) ∧ AI w.heap.size w w' (lk M lm n) n n (adjL (lk M lm n) n n) gO gA cA := by
  obtain ⟨i0, hi, hz0, hz1, hz2⟩ := info_parts Try.info3
  go_enter Try.func10, Try.ntmps10
  have wn : IntKind.i64.wrap ((n : Int) + 1) = ((n + 1 : Nat) : Int) := by rw [IntKind.wrap_i64]; omega
  go_wp2_with (at_make; refine wpList_make_full _ rfl _ _ 27 rfl 0 3 i0 (.int .i64 0) 1 Try.underlying27 hi hz0 hz1 _ _ _ _ (n + 1) rfl rfl rfl rfl (by rw [hz2]; omega) (by unfold maxLen; omega) (Nat.zero_le _) ?_)
  intro wA hown hg
  have oF : Own wA 3 (some ⟨w.heap.size, 0, none⟩) (n + 1) (n + 1) (fun _ => .int .i64 0) := made_own hown
  have fA : Fr (· < w.heap.size) w wA := (Fr.refl _ _).grown hg (fun _ h => h) (by simp)
  clear hown hg hi hz0 hz1 hz2 i0
  have lF := own_lt oF (g := w.heap.size) rfl
  have A0 : ∀ wB, wB = wA.alloc (Obj.cells #[] 21) → AI w.heap.size w wB (lk M lm n) n 0 (adjL (lk M lm n) n 0) w.heap.size wA.heap.size 0 := by
    rintro wB rfl
    have fB : Fr (· < wA.heap.size) wA (wA.alloc (Obj.cells #[] 21)) := (Fr.refl _ wA).alloc (fun _ h => h) _
    refine ⟨(oF.congr fun p hp => ?_).frN fB, ⟨rfl, .inr ⟨wA.heap.size, 0, #[], rfl, Nat.zero_le _, heap_alloc_new _ _, Nat.le_refl _, Nat.zero_le _, rfl, rfl⟩⟩, by omega, Nat.le_refl _, by omega, fA.trans (fB.mono fun k hk => by omega)⟩
    unfold offV
    by_cases e : p ≤ 0
    · obtain rfl : p = 0 := by omega
      rfl
    · rw [if_neg e]
  have HA := Hid.mk A0
  clear A0 oF fA
  generalize hB : w.heap.size = B at *
  generalize hC : wA.heap.size = C at *
  go_wp2
  go_loopw [5, 6] (fun s i wr => ∃ (k gA cA : Nat), k ≤ n ∧ i = .int .i64 k ∧ s = .slice (some ⟨gA, 0, none⟩) (adjL (lk M lm n) n k).length cA ∧ AI B w wr (lk M lm n) n k (adjL (lk M lm n) n k) B gA cA) (fun _ i _ => n - (intOf i).toNat)
  case atStart => exact ⟨0, C, 0, Nat.zero_le _, rfl, rfl, HA.out _ rfl⟩
  case round =>
    clear HA
    obtain ⟨k, gA, cA, hk, rfl, rfl, I⟩ := hrel
    by_cases hlt : k < n
    · have hlk : ∀ j, lk M lm n k j = lk M lm n k j := fun _ => rfl
      generalize hL : lk M lm n = L at *
      have HL := Hid.mk hL
      clear hL hlk
      go_wp2
      go_loopw [5, 7] (fun s i wr => ∃ (j gA cA : Nat), j ≤ n ∧ i = .int .i64 j ∧ s = .slice (some ⟨gA, 0, none⟩) (adjL L n k ++ rowL L k j).length cA ∧ AI B w wr L n k (adjL L n k ++ rowL L k j) B gA cA) (fun _ i _ => n - (intOf i).toNat)
      case atStart => exact ⟨0, gA, cA, Nat.zero_le _, rfl, by simp [rowL], by simpa [rowL] using I⟩
      case round =>
        clear I
        obtain ⟨j, gA, cA, hj, rfl, rfl, I⟩ := hrel
        have hB1 : B ≤ wr.heap.size := by have := I.fr.size; omega
        by_cases hjn : j < n
        · by_cases hjk : j = k
          · subst hjk
            have er : rowL L j (j + 1) = rowL L j j := by rw [rowL_succ]; simp
            have HI : Hid (AI B w wr L n j (adjL L n j ++ rowL L j (j + 1)) B gA cA) := by rw [er]; exact I
            have HE : Hid ((adjL L n j ++ rowL L j (j + 1)).length = (adjL L n j ++ rowL L j j).length) := by rw [er]; exact rfl
            clear I er HL h
            generalize (adjL L n j ++ rowL L j j).length = N at *
            go_wp2
            go_roundw
            case rel => exact ⟨j + 1, gA, cA, by omega, by go_num, by rw [HE.out], HI.out⟩
            case measure => simp [intOf]; omega
          · have hc : Cel wr a lm cap (fun p => .bool (M p)) := h.fr I.fr (fun _ e => by omega)
            have hjk' : ¬ ((j : Int) = (k : Int)) := by omega
            have er := rowL_succ L k j
            have hN : (adjL L n k ++ rowL L k j).length ≤ 4096 + 64 := by
              have hN := adjL_le L n k hk hn
              have hN2 := rowL_len L k j
              rw [List.length_append]
              omega
            have HX : Hid (adjL L n k ++ rowL L k (j + 1) = (adjL L n k ++ rowL L k j) ++ (if L k j = true then [j] else [])) := by rw [er, List.append_assoc]; simp [hjk, Hid]
            clear er
            generalize adjL L n k ++ rowL L k j = xs at *
            have HI := Hid.mk I
            generalize hNN : xs.length = N at *
            have HNN := Hid.mk hNN
            clear hNN I
            go_wp2_with fail
            refine (linked_any a lm cap M n k j wr hlt hjn hn hc).mono ?_
            rintro e w' ⟨rfl, rfl⟩
            rw [HL.out]
            clear hc h HL
            generalize hb : L k j = b at *
            have HNN := HNN.out
            subst HNN
            cases b
            · have HI2 : Hid (AI B w wr L n k (adjL L n k ++ rowL L k (j + 1)) B gA cA) := by rw [HX.out]; simpa using HI
              have HE : Hid ((adjL L n k ++ rowL L k (j + 1)).length = xs.length) := by rw [HX.out]; simp [Hid]
              clear HI HX hN hb
              generalize xs.length = N at *
              go_wp2
              go_roundw
              case rel => exact ⟨j + 1, gA, cA, by omega, by go_num, by rw [HE.out], HI2.out⟩
              case measure => simp [intOf]; omega
            · clear hb
              obtain ⟨i0, hi, hz0, hz1, hz2⟩ := info_parts Try.info21
              have wj : IntKind.i32.wrap (j : Int) = (j : Int) := by rw [IntKind.wrap_i32]; omega
              have o1 : ∀ o, (wr.alloc o).ownsRow 0 21 1 (.slice (some ⟨gA, 0, none⟩) xs.length cA) xs.length (i32s xs) := fun o => HI.out.adj.alloc o
              go_wp2_with (at_builtin; refine wpList_append_lies _ rfl (.tmp 32) (.tmp 35) 28 rfl 0 21 i0 (.int .i32 0) 1 4 Try.underlying28 hi hz0 hz1 hz2 rfl (by decide) _ _ _ rfl (o1 _) ⟨wr.heap.size, 0, none⟩ 1 1 [.int .i32 (j : Int)] rfl rfl ?c1 ?c2 (by decide) ?c3 ?c4 (Nat.zero_le _) (wr.heap.size + 1) ?c5 ?_)
              case c1 => exact one_new _ _ _ _ rfl
              case c2 => exact ints_oneCell .i32 [_]
              case c3 => unfold maxLen; omega
              case c4 => omega
              case c5 => simp
              intro G C2 w2 hown hg hat hlt2
              have HI2 : Hid (AI B w w2 L n k (adjL L n k ++ rowL L k (j + 1)) B G C2) := by rw [HX.out]; exact HI.out.push hB1 hown hg (by simpa [Value.ownBlock] using hat)
              have HE : Hid ((adjL L n k ++ rowL L k (j + 1)).length = xs.length + 1) := by rw [HX.out]; simp [Hid]
              clear HX HI o1 hown hg hat hi hz0 hz1 hz2 wj
              generalize xs.length = N at *
              go_wp2
              go_roundw
              case rel => exact ⟨j + 1, G, C2, by omega, by go_num, by rw [HE.out], HI2.out⟩
              case measure => simp [intOf]; omega
        · have e : j = n := by omega
          subst e
          have hN := adjL_le L j k hk hn
          have hN2 := rowL_len L k j
          have hN3 : (adjL L j k ++ rowL L k j).length ≤ 4096 + 64 := by rw [List.length_append]; omega
          obtain ⟨_, ef, _, kf1, kf2⟩ := I.off.get (k + 1) (by omega)
          simp at ef
          subst ef
          have HI := Hid.mk (fun x hx => I.store x hx)
          have wk : IntKind.i64.wrap ((k : Int) + 1) = ((k + 1 : Nat) : Int) := by rw [IntKind.wrap_i64]; omega
          have wk2 : ((k + 1 : Nat) : Int) < ((j + 1 : Nat) : Int) := by omega
          clear I hN hN2
          have HN : Hid ((adjL L j (k + 1)).length = (adjL L j k ++ rowL L k j).length) := rfl
          generalize (adjL L j k ++ rowL L k j).length = N at *
          go_wp2
          go_roundw
          case rel => exact ⟨k + 1, gA, cA, by omega, by go_num, by rw [HN.out], HI.out _ rfl⟩
          case measure => simp [intOf]; omega
    · have e : k = n := by omega
      subst e
      have HI := Hid.mk I
      clear I h
      generalize hN : (adjL (lk M lm k) k k).length = N at *
      have HN := Hid.mk hN
      clear hN
      go_wp2
      refine bodyPost_ret (v := .tuple #[.slice (some ⟨B, 0, none⟩) (k + 1) (k + 1), .slice (some ⟨gA, 0, none⟩) N cA]) ?_ rfl ?_
      · simp [results, Try.results10, go_sem]
      · rw [hB]
        exact ⟨_, _, _, by rw [HN.out], HI.out⟩

end Go.Proofs.Qxb6003682a

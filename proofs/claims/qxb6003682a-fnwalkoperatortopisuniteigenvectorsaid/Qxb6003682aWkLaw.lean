import Derived.Test.Qxb6003682aWkA
namespace Go.Proofs.Qxb6003682a
open Go.RowKit
set_option linter.unusedVariables false
attribute [local go_sem] run_store_float

theorem bytes14 (a1 : Option Addr) (l1 c1 : Nat) (a2 : Option Addr) (l2 c2 : Nat) (w : World) (h1 : l1 ≤ 9223372036854775807) (h2 : l2 ≤ 9223372036854775807) :
    Calls Try.prog 14 #[.slice a1 l1 c1, .slice a2 l2 c2] w fun e w' => (∃ b, e = .returned (.bool b)) ∧ w = w' := by
  go_enter Try.func14, Try.ntmps14
  go_wp2
  all_goals (go_ret; exact ⟨⟨_, rfl⟩, rfl⟩)

theorem abs_det {x B : Nat} (h : IsS x B) : ∃ y, IsS y B ∧ ∀ w : World, Calls Try.prog 16 #[.float .f64 x] w fun e w' => e = .returned (.float .f64 y) ∧ w' = w := by
  have hn : ∀ w : World, (Op.unary UnOp.neg (Value.float FloatKind.f64 x)).run Try.prog w = .ok (.float .f64 (x ^^^ 2 ^ 63)) w := fun w => rfl
  cases ho : FloatKind.f64.format.order x 0 with
  | none =>
    refine ⟨x, h, fun w => ?_⟩
    clear h
    go_enter Try.func16, Try.ntmps16
    go_wp2
    go_ret
    exact ⟨rfl, rfl⟩
  | some o =>
    cases o
    · refine ⟨_, h.neg, fun w => ?_⟩
      clear h
      go_enter Try.func16, Try.ntmps16
      go_wp2
      go_ret
      exact ⟨rfl, rfl⟩
    · refine ⟨x, h, fun w => ?_⟩
      clear h
      go_enter Try.func16, Try.ntmps16
      go_wp2
      go_ret
      exact ⟨rfl, rfl⟩
    · refine ⟨x, h, fun w => ?_⟩
      clear h
      go_enter Try.func16, Try.ntmps16
      go_wp2
      go_ret
      exact ⟨rfl, rfl⟩

theorem zzwop_any (b : Nat) (L : Nat → Nat → Bool) (n : Nat) (Z : Nat → Int) (aI : Option Addr) (cI gO gA cA : Nat) (w : World) (hn : n ≤ 64) (hn0 : 0 < n) (H : Gr w b L n Z aI cI gO gA cA) (hdeg : ∀ i, i < n → 0 < (rowL L i n).length) :
    Calls Try.prog 15 #[.pointer (some ⟨b, 0, none⟩)] w fun e w' => ∃ p N gW gT fW fT, e = .returned (.tuple #[.slice (some ⟨gW, 0, none⟩) n n, .slice (some ⟨gT, 0, none⟩) n n]) ∧ Nm (adjL L n n).length N ∧ WO w w' L n (adjL L n n).length N p gW gT n fW fT := by
  go_enter Try.func15, Try.ntmps15
  go_wp2_with fail
  refine (wop_any b L n Z aI cI gO gA cA w hn hn0 H hdeg).mono ?_
  rintro e wA ⟨p, N, gW, gT, fW, fT, rfl, hN, hW⟩
  have c2 := hW.op.c2
  have c3 := hW.op.c3
  have HH := Hid.mk (And.intro hN hW)
  clear hN hW H hdeg
  have f2 : ∀ m, (wA.drewN m).cell? ⟨p, 2, none⟩ = some (.slice (some ⟨gW, 0, none⟩) n n) := fun m => by rw [World.cell?_drewN]; exact c2
  have f3 : ∀ m, (wA.drewN m).cell? ⟨p, 3, none⟩ = some (.slice (some ⟨gT, 0, none⟩) n n) := fun m => by rw [World.cell?_drewN]; exact c3
  clear c2 c3
  go_wp2
  go_quiet (fail)
  have HW2 : Hid (WO w (wA.drewN nq) L n (adjL L n n).length N p gW gT n fW fT) := ⟨HH.out.2.op.drewN nq, HH.out.2.rw.drewN nq, HH.out.2.rt.drewN nq, HH.out.2.nd, HH.out.2.fr.drewN nq⟩
  clear f2 f3
  generalize wA.drewN nq = wB at *
  go_wp2
  refine bodyPost_ret (v := .tuple #[.slice (some ⟨gW, 0, none⟩) n n, .slice (some ⟨gT, 0, none⟩) n n]) ?_ rfl ?_
  · simp [results, Try.results15, go_sem]
  · exact ⟨p, N, gW, gT, fW, fT, rfl, HH.out.1, HW2.out⟩

theorem AI.drewN {B : Nat} {w wr : World} {L : Nat → Nat → Bool} {n i : Nat} {xs : List Nat} {gO gA cA : Nat} (h : AI B w wr L n i xs gO gA cA) (q : Nat) : AI B w (wr.drewN q) L n i xs gO gA cA :=
  ⟨h.off.drewN q, own_keep h.adj (fun k _ => by rw [World.heap_drewN]), h.ne, h.lo, h.la, h.fr.drewN q⟩

/-- all that the checks read -/
structure WR (w : World) (L : Nat → Nat → Bool) (n : Nat) (gO gA gW gT : Nat) (fW fT : Nat → Nat) : Prop where
  off : ∀ i, i ≤ n → w.cell? ⟨gO, i, none⟩ = some (.int .i64 ((adjL L n i).length : Int))
  adj : ∀ p, p < (adjL L n n).length → w.cell? ⟨gA, p, none⟩ = some (.int .i32 (((adjL L n n).getD p 0 : Nat) : Int))
  rw : ∀ j, j < n → w.cell? ⟨gW, j, none⟩ = some (.float .f64 (fW j))
  rt : ∀ j, j < n → w.cell? ⟨gT, j, none⟩ = some (.float .f64 (fT j))
theorem WR.drewN {w : World} {L : Nat → Nat → Bool} {n gO gA gW gT : Nat} {fW fT : Nat → Nat} (h : WR w L n gO gA gW gT fW fT) (q : Nat) : WR (w.drewN q) L n gO gA gW gT fW fT :=
  ⟨fun i hi => by rw [World.cell?_drewN]; exact h.off i hi, fun i hi => by rw [World.cell?_drewN]; exact h.adj i hi, fun i hi => by rw [World.cell?_drewN]; exact h.rw i hi, fun i hi => by rw [World.cell?_drewN]; exact h.rt i hi⟩
theorem Own.cellAt {w : World} {e : TypeId} {g len cap : Nat} {V : Nat → Value} (h : Own w e (some ⟨g, 0, none⟩) len cap V) (i : Nat) (hi : i < len) : w.cell? ⟨g, i, none⟩ = some (V i) := by
  obtain ⟨g', eg, _, c, _⟩ := h.get i hi
  simp at eg
  subst eg
  exact c
theorem wr_made {w0 w : World} {b : Nat} {L : Nat → Nat → Bool} {n : Nat} {Z : Nat → Int} {aI : Option Addr} {cI gO gA cA E N p gW gT k : Nat} {fW fT : Nat → Nat} (G : Gr w b L n Z aI cI gO gA cA) (W : WO w0 w L n E N p gW gT k fW fT) : WR w L n gO gA gW gT fW fT :=
  ⟨G.off, G.adj, fun j hj => W.rw.cellAt j hj, fun j hj => W.rt.cellAt j hj⟩

theorem gt_of {o : Option Ordering} (h : (o == some .gt) = true) : o = some .gt := by
  cases o with
  | none => cases h
  | some o => cases o <;> first | rfl | cases h

end Go.Proofs.Qxb6003682a

import Derived.Test.Qxb6003672aWait
import Derived.Deep.Draws
namespace Go.Proofs.Qxb6003672a
open Go.RowKit
set_option linter.unusedVariables false

section
variable {X Y : World} {b : Nat} {n : Int} {vn vu vw : Value}
theorem Bld.fr (hf : Fr (· < X.heap.size) X Y) (h : Bld X b n vn vu vw) : Bld Y b n vn vu vw := h.keep (hf.block b h.lt)
theorem Bld.alloc (o : Obj) (h : Bld X b n vn vu vw) : Bld (X.alloc o) b n vn vu vw := h.keep (Below.heap_alloc _ _ _ h.lt)
theorem Bld.drew (h : Bld X b n vn vu vw) : Bld X.drew b n vn vu vw := h
theorem Bld.setFar {p : Addr} (hp : p.block ≠ b) (u : Value) (h : Bld X b n vn vu vw) : Bld (X.setCell p u) b n vn vu vw := h.keep (Below.heap_setCell _ _ _ _ (fun e => hp e.symm))
theorem Bld.flds {w : World} (h : Bld w b n vn vu vw) : w.cell? ⟨b, 1, none⟩ = some vn ∧ w.cell? ⟨b, 2, none⟩ = some vu ∧ w.cell? ⟨b, 4, none⟩ = some nilS ∧ w.cell? ⟨b, 8, none⟩ = some nilS ∧ Bld w b n vn vu vw := by
  have d1 := h.cell 1
  have d2 := h.cell 2
  have d4 := h.cell 4
  have d8 := h.cell 8
  simp at d1 d2 d4 d8
  exact ⟨d1, d2, d4, d8, h⟩
end

/-- a block of six slices -/
def Six (w : World) (g : Nat) (a0 a1 a2 a3 a4 a5 : Value) : Prop := w.heap[g]? = some (.cells #[a0, a1, a2, a3, a4, a5] 31 (0, 0))
section
variable {w w' : World} {g : Nat} {a0 a1 a2 a3 a4 a5 : Value}
theorem Six.cell (h : Six w g a0 a1 a2 a3 a4 a5) (j : Nat) : w.cell? ⟨g, j, none⟩ = [a0, a1, a2, a3, a4, a5][j]? := by
  rw [cell_of_row w g j _ 31 (0, 0) h]
  simp
theorem Six.frozen (h : Six w g a0 a1 a2 a3 a4 a5) (j : Nat) : w.frozen? ⟨g, j, none⟩ = false := frozen_of_row w g j _ 31 h
theorem Six.keep (h : Six w g a0 a1 a2 a3 a4 a5) (hk : w'.heap[g]? = w.heap[g]?) : Six w' g a0 a1 a2 a3 a4 a5 := hk.trans h
theorem Six.lt (h : Six w g a0 a1 a2 a3 a4 a5) : g < w.heap.size := (Array.getElem?_eq_some_iff.1 h).1
theorem Six.set1 (h : Six w g a0 a1 a2 a3 a4 a5) (v : Value) : Six (w.setCell ⟨g, 1, none⟩ v) g a0 v a2 a3 a4 a5 := heap_setCell_same w g 1 _ 31 _ h
theorem Six.set5 (h : Six w g a0 a1 a2 a3 a4 a5) (v : Value) : Six (w.setCell ⟨g, 5, none⟩ v) g a0 a1 a2 a3 a4 v := heap_setCell_same w g 5 _ 31 _ h
theorem Six.off (h : Six w g a0 a1 a2 a3 a4 a5) {e size : Nat} (he : e ≠ 31) {v : Value} {k : Nat} {xs : List Value} (hr : w.ownsRow 0 e size v k xs) : v.ownBlock ≠ some g := by
  intro hv
  rcases hr.2 with ⟨rfl, _⟩ | ⟨g', cap', cur, rfl, _, hg, _⟩
  · simp [Value.ownBlock] at hv
  · simp [Value.ownBlock] at hv
    subst hv
    unfold Six at h
    rw [hg] at h
    simp at h
    exact he h.2
theorem Six.fr (hf : Fr (· < w.heap.size) w w') (h : Six w g a0 a1 a2 a3 a4 a5) : Six w' g a0 a1 a2 a3 a4 a5 := h.keep (hf.block g h.lt)
theorem Six.alloc (o : Obj) (h : Six w g a0 a1 a2 a3 a4 a5) : Six (w.alloc o) g a0 a1 a2 a3 a4 a5 := h.keep (Below.heap_alloc _ _ _ h.lt)
theorem Six.setFar {p : Addr} (hp : p.block ≠ g) (u : Value) (h : Six w g a0 a1 a2 a3 a4 a5) : Six (w.setCell p u) g a0 a1 a2 a3 a4 a5 := h.keep (Below.heap_setCell _ _ _ _ (fun e => hp e.symm))
end
theorem Row.frN {w w' : World} {v : Value} {n : Nat} {zs : List Int} (h : Row w v n zs) (hf : Fr (· < w.heap.size) w w') : Row w' v n zs := h.fr hf fun k e => own_lt h e

/-- the graph in the making: its two tables of firsts -/
structure IG (w : World) (b n : Nat) (vn vu vw : Value) (wr : World) (gb gf cf gw cw : Nat) (vt vx : Value) (fs ts : List Int) : Prop where
  fr : Fr (fun k => k < w.heap.size ∧ k ≠ b) w wr
  blk : Bld wr b n vn vu vw
  res : Six wr w.heap.size nilS nilS nilS nilS nilS nilS
  gph : Six wr gb (.slice (some ⟨gf, 0, none⟩) (n + 1) cf) vt vn vu (.slice (some ⟨gw, 0, none⟩) (n + 1) cw) vx
  rf : Row wr (.slice (some ⟨gf, 0, none⟩) (n + 1) cf) (n + 1) fs
  rt : Row wr (.slice (some ⟨gw, 0, none⟩) (n + 1) cw) (n + 1) ts
  hb : b < w.heap.size
  hgb : w.heap.size < gb
  hgf : w.heap.size < gf
  hgw : gf < gw

section
variable {w wr w' : World} {b n : Nat} {vn vu vw : Value} {gb gf cf gw cw : Nat} {vt vx : Value} {fs ts : List Int}
theorem IG.drew (h : IG w b n vn vu vw wr gb gf cf gw cw vt vx fs ts) : IG w b n vn vu vw wr.drew gb gf cf gw cw vt vx fs ts :=
  ⟨h.fr.drew, h.blk, h.res, h.gph, h.rf, h.rt, h.hb, h.hgb, h.hgf, h.hgw⟩
theorem IG.big (h : IG w b n vn vu vw wr gb gf cf gw cw vt vx fs ts) : ∀ k, k < w.heap.size ∧ k ≠ b → k < wr.heap.size := fun k hk => Nat.lt_of_lt_of_le hk.1 h.fr.size
theorem IG.frN (h : IG w b n vn vu vw wr gb gf cf gw cw vt vx fs ts) (hf : Fr (· < wr.heap.size) wr w') : IG w b n vn vu vw w' gb gf cf gw cw vt vx fs ts :=
  ⟨h.fr.trans (hf.mono h.big), h.blk.fr hf, h.res.fr hf, h.gph.fr hf, h.rf.frN hf, h.rt.frN hf, h.hb, h.hgb, h.hgf, h.hgw⟩
theorem IG.alloc (h : IG w b n vn vu vw wr gb gf cf gw cw vt vx fs ts) (o : Obj) : IG w b n vn vu vw (wr.alloc o) gb gf cf gw cw vt vx fs ts :=
  h.frN ((Fr.refl _ _).alloc (fun _ e => e) o)
theorem IG.ne (h : IG w b n vn vu vw wr gb gf cf gw cw vt vx fs ts) : gf ≠ gb ∧ gw ≠ gb ∧ gf ≠ b ∧ gw ≠ b ∧ gf ≠ w.heap.size ∧ gw ≠ w.heap.size ∧ gb ≠ b := by
  have h1 := h.gph.off (by decide) h.rf
  have h2 := h.gph.off (by decide) h.rt
  have h3 := h.hb
  have h4 := h.hgf
  have h5 := h.hgw
  have h6 := h.hgb
  simp [Value.ownBlock] at h1 h2
  omega
/-- a store far from all -/
theorem IG.setFar (h : IG w b n vn vu vw wr gb gf cf gw cw vt vx fs ts) {p : Addr} (u : Value) (h1 : w.heap.size < p.block) (h2 : p.block ≠ gb) (h3 : p.block ≠ gf) (h4 : p.block ≠ gw) :
    IG w b n vn vu vw (wr.setCell p u) gb gf cf gw cw vt vx fs ts := by
  have hb := h.hb
  refine ⟨h.fr.setCell (by omega) u, h.blk.setFar (by omega) u, h.res.setFar (by omega) u, h.gph.setFar h2 u, h.rf.setOther u ?_, h.rt.setOther u ?_, h.hb, h.hgb, h.hgf, h.hgw⟩
  · simp [Value.ownBlock]; omega
  · simp [Value.ownBlock]; omega
theorem IG.setF (h : IG w b n vn vu vw wr gb gf cf gw cw vt vx fs ts) (j : Nat) (y : Int) : IG w b n vn vu vw (wr.setCell ⟨gf, j, none⟩ (.int .i64 y)) gb gf cf gw cw vt vx (fs.set j y) ts := by
  obtain ⟨n1, n2, n3, n4, n5, n6, n7⟩ := h.ne
  have h4 := h.hgf
  have h5 := h.hgw
  refine ⟨h.fr.setCell (by simp; omega) _, h.blk.setFar n3 _, h.res.setFar n5 _, h.gph.setFar n1 _, h.rf.set j y, h.rt.setOther _ ?_, h.hb, h.hgb, h.hgf, h.hgw⟩
  simp [Value.ownBlock]; omega
theorem IG.setT (h : IG w b n vn vu vw wr gb gf cf gw cw vt vx fs ts) (j : Nat) (y : Int) : IG w b n vn vu vw (wr.setCell ⟨gw, j, none⟩ (.int .i64 y)) gb gf cf gw cw vt vx fs (ts.set j y) := by
  obtain ⟨n1, n2, n3, n4, n5, n6, n7⟩ := h.ne
  have h4 := h.hgf
  have h5 := h.hgw
  refine ⟨h.fr.setCell (by simp; omega) _, h.blk.setFar n4 _, h.res.setFar n6 _, h.gph.setFar n2 _, h.rf.setOther _ ?_, h.rt.set j y, h.hb, h.hgb, h.hgf, h.hgw⟩
  simp [Value.ownBlock]; omega
end

section
variable {w wr w' : World} {b n : Nat} {vn vu vw : Value} {gb gf cf gw cw : Nat} {vt vx : Value} {fs ts : List Int}
/-- 'g.to = ..' -/
theorem IG.to1 (h : IG w b n vn vu vw wr gb gf cf gw cw vt vx fs ts) (v : Value) : IG w b n vn vu vw (wr.setCell ⟨gb, 1, none⟩ v) gb gf cf gw cw v vx fs ts := by
  obtain ⟨n1, n2, n3, n4, n5, n6, n7⟩ := h.ne
  have h6 := h.hgb
  refine ⟨h.fr.setCell (by simp; omega) _, h.blk.setFar n7 _, h.res.setFar (by simp; omega) _, h.gph.set1 v, h.rf.setOther _ ?_, h.rt.setOther _ ?_, h.hb, h.hgb, h.hgf, h.hgw⟩
  · simp [Value.ownBlock]; omega
  · simp [Value.ownBlock]; omega
/-- 'g.waiters = ..' -/
theorem IG.to5 (h : IG w b n vn vu vw wr gb gf cf gw cw vt vx fs ts) (v : Value) : IG w b n vn vu vw (wr.setCell ⟨gb, 5, none⟩ v) gb gf cf gw cw vt v fs ts := by
  obtain ⟨n1, n2, n3, n4, n5, n6, n7⟩ := h.ne
  have h6 := h.hgb
  refine ⟨h.fr.setCell (by simp; omega) _, h.blk.setFar n7 _, h.res.setFar (by simp; omega) _, h.gph.set5 v, h.rf.setOther _ ?_, h.rt.setOther _ ?_, h.hb, h.hgb, h.hgf, h.hgw⟩
  · simp [Value.ownBlock]; omega
  · simp [Value.ownBlock]; omega
end

theorem Row.grownN {w w' : World} {v : Value} {n : Nat} {zs : List Int} (h : Row w v n zs) (hg : w.grownBy w' none) : Row w' v n zs := World.ownsRow.kept h hg (by cases v.ownBlock <;> simp)
theorem news_row {w : World} {g k c n : Nat} {zs : List Int} (h : Row w (.slice (some ⟨g, 0, none⟩) k c) k zs) (hn : n ≤ k) : ∀ j u, ((zs.take n).map (Value.int .i64))[j]? = some u → w.cell? ((⟨g, 0, none⟩ : Addr).add j) = some u := by
  intro j u hu
  refine World.ownsRow.cells h (g := g) rfl j u ?_
  rw [List.getElem?_map] at hu ⊢
  rw [List.getElem?_take] at hu
  split at hu
  · exact hu
  · simp at hu

/-- the builder's block with its scratch laid -/
def BldN (w : World) (b : Nat) (n : Int) (vn vu vw nx : Value) : Prop :=
  w.heap[b]? = some (.cells #[.int .i64 n, vn, vu, vw, nilS, nilS, nilS, nilS, nilS, nilS, nx] 49 (0, 0))
theorem BldN.cell {w : World} {b : Nat} {n : Int} {vn vu vw nx : Value} (h : BldN w b n vn vu vw nx) (j : Nat) : w.cell? ⟨b, j, none⟩ = [Value.int .i64 n, vn, vu, vw, nilS, nilS, nilS, nilS, nilS, nilS, nx][j]? := by
  rw [cell_of_row w b j _ 49 (0, 0) h]
  simp
theorem BldN.frozen {w : World} {b : Nat} {n : Int} {vn vu vw nx : Value} (h : BldN w b n vn vu vw nx) (j : Nat) : w.frozen? ⟨b, j, none⟩ = false := frozen_of_row w b j _ 49 h
theorem BldN.lt {w : World} {b : Nat} {n : Int} {vn vu vw nx : Value} (h : BldN w b n vn vu vw nx) : b < w.heap.size := (Array.getElem?_eq_some_iff.1 h).1
theorem Bld.set10 {w : World} {b : Nat} {n : Int} {vn vu vw : Value} (h : Bld w b n vn vu vw) (v : Value) : BldN (w.setCell ⟨b, 10, none⟩ v) b n vn vu vw v := heap_setCell_same w b 10 _ 49 _ h

/-- the graph in the making: all but the last loop -/
structure JG (w : World) (b n m : Nat) (vn vu vw : Value) (wr : World) (gb gf cf gw cw : Nat) (vt vx : Value) (gn kn : Nat) (fs ts tos xs nx : List Int) : Prop where
  fr : Fr (fun k => k < w.heap.size ∧ k ≠ b) w wr
  blk : BldN wr b n vn vu vw (.slice (some ⟨gn, 0, none⟩) (n + n) kn)
  res : Six wr w.heap.size nilS nilS nilS nilS nilS nilS
  gph : Six wr gb (.slice (some ⟨gf, 0, none⟩) (n + 1) cf) vt vn vu (.slice (some ⟨gw, 0, none⟩) (n + 1) cw) vx
  rf : Row wr (.slice (some ⟨gf, 0, none⟩) (n + 1) cf) (n + 1) fs
  rt : Row wr (.slice (some ⟨gw, 0, none⟩) (n + 1) cw) (n + 1) ts
  ro : Row wr vt m tos
  rx : Row wr vx m xs
  rn : Row wr (.slice (some ⟨gn, 0, none⟩) (n + n) kn) (n + n) nx
  hb : b < w.heap.size
  hgb : w.heap.size < gb
  hgf : w.heap.size < gf
  hgw : gf < gw
  hgn : gw < gn
  t1 : ∀ g, vt.ownBlock = some g → gw < g ∧ g < gn
  t2 : ∀ g, vx.ownBlock = some g → gw < g ∧ g < gn ∧ vt.ownBlock ≠ some g

/-- the two appends -/
theorem JG.start {w Y w1 w2 : World} {b n m : Nat} {vn vu vw : Value} {gb gf cf gw cw : Nat} {vt vx : Value} {fs ts tos xs nx : List Int} {G1 G2 C2 : Nat}
    (h : IG w b n vn vu vw Y gb gf cf gw cw vt vx fs ts) (ho : Row Y vt m tos) (hx : Row Y vx m xs) (T1 : ∀ g, vt.ownBlock = some g → gw < g) (T2 : ∀ g, vx.ownBlock = some g → gw < g ∧ vt.ownBlock ≠ some g)
    (hg1 : Y.drew.grownBy w1 none) (e1 : G1 = Y.heap.size) (hl1 : G1 < w1.heap.size) (hg2 : w1.grownBy w2 (some G1)) (e2 : G1 = G2 ∨ G2 = w1.heap.size) (hown : w2.ownsRow 0 3 1 (.slice (some ⟨G2, 0, none⟩) (n + n) C2) (n + n) (nx.map (Value.int .i64))) :
    Bld w2 b n vn vu vw ∧ JG w b n m vn vu vw (w2.setCell ⟨b, 10, none⟩ (.slice (some ⟨G2, 0, none⟩) (n + n) C2)) gb gf cf gw cw vt vx G2 C2 fs ts tos xs nx := by
  have f1 : Fr (· < Y.heap.size) Y w1 := ⟨hg1.os, hg1.tape, hg1.output, hg1.size, fun k hk => hg1.block k hk (by simp)⟩
  have f2 : Fr (· < Y.heap.size) Y w2 := f1.trans ⟨hg2.os, hg2.tape, hg2.output, hg2.size, fun k hk => hg2.block k (by have := f1.size; omega) (by simp; omega)⟩
  have I := h.frN f2
  have ho2 := ho.frN f2
  have hx2 := hx.frN f2
  have hz := f1.size
  have a1 := h.rt.lt
  have hG : Y.heap.size ≤ G2 := by omega
  have ob := I.blk.off (by decide) ho2
  have xb := I.blk.off (by decide) hx2
  have nb := I.blk.ne (g := G2) hown
  obtain ⟨n1, n2, n3, n4, n5, n6, n7⟩ := I.ne
  have hb := I.hb
  have hgb := I.hgb
  refine ⟨I.blk, ⟨I.fr.setCell (by simp) _, I.blk.set10 _, I.res.setFar (by simp; omega) _, I.gph.setFar (by simp; omega) _, I.rf.setOther _ (by simpa [Value.ownBlock] using n3), I.rt.setOther _ (by simpa [Value.ownBlock] using n4), ho2.setOther _ ob, hx2.setOther _ xb, ?_, hb, hgb, I.hgf, I.hgw, by omega, ?_, ?_⟩⟩
  · exact Row.setOther (v := .slice (some ⟨G2, 0, none⟩) (n + n) C2) hown _ (by simpa [Value.ownBlock] using nb)
  · intro g e
    exact ⟨T1 g e, by have := own_lt ho e; omega⟩
  · intro g e
    exact ⟨(T2 g e).1, by have := own_lt hx e; omega, (T2 g e).2⟩

section
variable {w wr w' : World} {b n m : Nat} {vn vu vw : Value} {gb gf cf gw cw : Nat} {vt vx : Value} {gn kn : Nat} {fs ts tos xs nx : List Int}
theorem JG.drew (h : JG w b n m vn vu vw wr gb gf cf gw cw vt vx gn kn fs ts tos xs nx) : JG w b n m vn vu vw wr.drew gb gf cf gw cw vt vx gn kn fs ts tos xs nx :=
  ⟨h.fr.drew, h.blk, h.res, h.gph, h.rf, h.rt, h.ro, h.rx, h.rn, h.hb, h.hgb, h.hgf, h.hgw, h.hgn, h.t1, h.t2⟩
theorem JG.drewN (h : JG w b n m vn vu vw wr gb gf cf gw cw vt vx gn kn fs ts tos xs nx) (q : Nat) : JG w b n m vn vu vw (wr.drewN q) gb gf cf gw cw vt vx gn kn fs ts tos xs nx :=
  ⟨⟨h.fr.os, h.fr.tape, h.fr.output, h.fr.size, h.fr.block⟩, h.blk, h.res, h.gph, h.rf, h.rt, h.ro, h.rx, h.rn, h.hb, h.hgb, h.hgf, h.hgw, h.hgn, h.t1, h.t2⟩
theorem JG.alloc (h : JG w b n m vn vu vw wr gb gf cf gw cw vt vx gn kn fs ts tos xs nx) (o : Obj) : JG w b n m vn vu vw (wr.alloc o) gb gf cf gw cw vt vx gn kn fs ts tos xs nx :=
  ⟨h.fr.alloc (fun k hk => Nat.lt_of_lt_of_le hk.1 h.fr.size) o, (Below.heap_alloc _ _ _ h.blk.lt).trans h.blk, h.res.alloc o, h.gph.alloc o, h.rf.alloc o, h.rt.alloc o, h.ro.alloc o, h.rx.alloc o, h.rn.alloc o, h.hb, h.hgb, h.hgf, h.hgw, h.hgn, h.t1, h.t2⟩
theorem JG.ne (h : JG w b n m vn vu vw wr gb gf cf gw cw vt vx gn kn fs ts tos xs nx) : gf ≠ gb ∧ gw ≠ gb ∧ gn ≠ gb ∧ gb ≠ b ∧ (∀ g, vt.ownBlock = some g → g ≠ gb) ∧ (∀ g, vx.ownBlock = some g → g ≠ gb) := by
  have h1 := h.gph.off (by decide) h.rf
  have h2 := h.gph.off (by decide) h.rt
  have h3 := h.gph.off (by decide) h.rn
  have h4 := h.gph.off (by decide) h.ro
  have h5 := h.gph.off (by decide) h.rx
  have h6 := h.hb
  have h7 := h.hgb
  simp [Value.ownBlock] at h1 h2 h3
  exact ⟨h1, h2, h3, by omega, fun g e e' => h4 (e' ▸ e), fun g e e' => h5 (e' ▸ e)⟩
/-- a store into the 'to' row -/
theorem JG.setO {gt ct : Nat} (h : JG w b n m vn vu vw wr gb gf cf gw cw (.slice (some ⟨gt, 0, none⟩) m ct) vx gn kn fs ts tos xs nx) (j : Nat) (y : Int) :
    JG w b n m vn vu vw (wr.setCell ⟨gt, j, none⟩ (.int .i64 y)) gb gf cf gw cw (.slice (some ⟨gt, 0, none⟩) m ct) vx gn kn fs ts (tos.set j y) xs nx := by
  obtain ⟨n1, n2, n3, n4, n5, n6⟩ := h.ne
  have hb := h.hb
  have h4 := h.hgf
  have h5 := h.hgw
  have h6 := h.hgn
  have h7 := h.t1 gt rfl
  refine ⟨h.fr.setCell (by simp; omega) _, (Below.heap_setCell _ _ _ _ (by simp; omega)).trans h.blk, h.res.setFar (by simp; omega) _, h.gph.setFar (n5 gt rfl) _, h.rf.setOther _ ?_, h.rt.setOther _ ?_, h.ro.set j y, h.rx.setOther _ ?_, h.rn.setOther _ ?_, h.hb, h.hgb, h.hgf, h.hgw, h.hgn, h.t1, h.t2⟩
  · simp [Value.ownBlock]; omega
  · simp [Value.ownBlock]; omega
  · intro e; exact (h.t2 _ e).2.2 rfl
  · simp [Value.ownBlock]; omega
/-- a store into the 'waiters' row -/
theorem JG.setX {gx cx : Nat} (h : JG w b n m vn vu vw wr gb gf cf gw cw vt (.slice (some ⟨gx, 0, none⟩) m cx) gn kn fs ts tos xs nx) (j : Nat) (y : Int) :
    JG w b n m vn vu vw (wr.setCell ⟨gx, j, none⟩ (.int .i64 y)) gb gf cf gw cw vt (.slice (some ⟨gx, 0, none⟩) m cx) gn kn fs ts tos (xs.set j y) nx := by
  obtain ⟨n1, n2, n3, n4, n5, n6⟩ := h.ne
  have hb := h.hb
  have h4 := h.hgf
  have h5 := h.hgw
  have h6 := h.hgn
  have h7 := h.t2 gx rfl
  refine ⟨h.fr.setCell (by simp; omega) _, (Below.heap_setCell _ _ _ _ (by simp; omega)).trans h.blk, h.res.setFar (by simp; omega) _, h.gph.setFar (n6 gx rfl) _, h.rf.setOther _ ?_, h.rt.setOther _ ?_, h.ro.setOther _ h7.2.2, h.rx.set j y, h.rn.setOther _ ?_, h.hb, h.hgb, h.hgf, h.hgw, h.hgn, h.t1, h.t2⟩
  · simp [Value.ownBlock]; omega
  · simp [Value.ownBlock]; omega
  · simp [Value.ownBlock]; omega
/-- a store into the running tables -/
theorem JG.setN (h : JG w b n m vn vu vw wr gb gf cf gw cw vt vx gn kn fs ts tos xs nx) (j : Nat) (y : Int) :
    JG w b n m vn vu vw (wr.setCell ⟨gn, j, none⟩ (.int .i64 y)) gb gf cf gw cw vt vx gn kn fs ts tos xs (nx.set j y) := by
  obtain ⟨n1, n2, n3, n4, n5, n6⟩ := h.ne
  have hb := h.hb
  have h4 := h.hgf
  have h5 := h.hgw
  have h6 := h.hgn
  refine ⟨h.fr.setCell (by simp; omega) _, (Below.heap_setCell _ _ _ _ (by simp; omega)).trans h.blk, h.res.setFar (by simp; omega) _, h.gph.setFar n3 _, h.rf.setOther _ ?_, h.rt.setOther _ ?_, h.ro.setOther _ ?_, h.rx.setOther _ ?_, h.rn.set j y, h.hb, h.hgb, h.hgf, h.hgw, h.hgn, h.t1, h.t2⟩
  · simp [Value.ownBlock]; omega
  · simp [Value.ownBlock]; omega
  · intro e; have := (h.t1 _ e).2; simp at this
  · intro e; have := (h.t2 _ e).2.1; simp at this
end

/-- the start: two calls of zeroed and the new block, in whatever order -/
theorem IG.start {w W wA wB wr : World} {b n : Nat} {vn vu vw : Value} {gb gA cA gB cB : Nat} (hb : Bld w b n vn vu vw) (hW : w.alloc (.cells #[nilS, nilS, nilS, nilS, nilS, nilS] 31) = W)
    (hr : Fr (· < W.heap.size) W wr) (hA : Row wr (.slice (some ⟨gA, 0, none⟩) (n + 1) cA) (n + 1) (List.replicate (n + 1) 0)) (hB : Row wr (.slice (some ⟨gB, 0, none⟩) (n + 1) cB) (n + 1) (List.replicate (n + 1) 0))
    (hG : Six wr gb (.slice (some ⟨gA, 0, none⟩) (n + 1) cA) nilS vn vu (.slice (some ⟨gB, 0, none⟩) (n + 1) cB) nilS) (h1 : W.heap.size ≤ gb) (h2 : W.heap.size ≤ gA) (h3 : gA < gB) :
    IG w b n vn vu vw wr gb gA cA gB cB nilS nilS (List.replicate (n + 1) 0) (List.replicate (n + 1) 0) := by
  have hs : W.heap.size = w.heap.size + 1 := by rw [← hW]; simp
  have f0 : Fr (· < w.heap.size) w W := by rw [← hW]; exact (Fr.refl _ _).alloc (fun _ e => e) _
  have hl := hb.lt
  refine ⟨(f0.mono (fun k e => e.1)).trans (hr.mono (fun k e => by omega)), (hb.fr f0).fr hr, ?_, hG, hA, hB, hl, by omega, by omega, h3⟩
  refine Six.fr hr ?_
  rw [← hW]
  exact heap_alloc_new w _

theorem Six.fill {w : World} {g : Nat} {a0 a1 a2 a3 a4 a5 : Value} (h : Six w g a0 a1 a2 a3 a4 a5) (x0 x1 x2 x3 x4 x5 : Value) :
    Six ((((((w.setCell ⟨g, 0, none⟩ x0).setCell ⟨g, 1, none⟩ x1).setCell ⟨g, 2, none⟩ x2).setCell ⟨g, 3, none⟩ x3).setCell ⟨g, 4, none⟩ x4).setCell ⟨g, 5, none⟩ x5) g x0 x1 x2 x3 x4 x5 := by
  have h0 : Six (w.setCell ⟨g, 0, none⟩ x0) g x0 a1 a2 a3 a4 a5 := heap_setCell_same w g 0 _ 31 _ h
  have h1 := h0.set1 x1
  have h2 : Six _ g x0 x1 x2 a3 a4 a5 := heap_setCell_same _ g 2 _ 31 x2 h1
  have h3 : Six _ g x0 x1 x2 x3 a4 a5 := heap_setCell_same _ g 3 _ 31 x3 h2
  have h4 : Six _ g x0 x1 x2 x3 x4 a5 := heap_setCell_same _ g 4 _ 31 x4 h3
  exact h4.set5 x5
theorem Fr.fill {F : Nat → Prop} {a w : World} {g : Nat} (hg : ¬ F g) (h : Fr F a w) (x0 x1 x2 x3 x4 x5 : Value) :
    Fr F a ((((((w.setCell ⟨g, 0, none⟩ x0).setCell ⟨g, 1, none⟩ x1).setCell ⟨g, 2, none⟩ x2).setCell ⟨g, 3, none⟩ x3).setCell ⟨g, 4, none⟩ x4).setCell ⟨g, 5, none⟩ x5) :=
  (((((h.setCell hg _).setCell hg _).setCell hg _).setCell hg _).setCell hg _).setCell hg _
theorem Row.fill {w : World} {v : Value} {k : Nat} {zs : List Int} {g : Nat} (hg : v.ownBlock ≠ some g) (h : Row w v k zs) (x0 x1 x2 x3 x4 x5 : Value) :
    Row ((((((w.setCell ⟨g, 0, none⟩ x0).setCell ⟨g, 1, none⟩ x1).setCell ⟨g, 2, none⟩ x2).setCell ⟨g, 3, none⟩ x3).setCell ⟨g, 4, none⟩ x4).setCell ⟨g, 5, none⟩ x5) v k zs :=
  (((((h.setOther _ hg).setOther _ hg).setOther _ hg).setOther _ hg).setOther _ hg).setOther _ hg

abbrev six0 : Obj := .cells #[nilS, nilS, nilS, nilS, nilS, nilS] 31

section
variable {w W wA wB : World} {b n : Nat} {vn vu vw : Value} {gA cA gB cB : Nat}
theorem start1 (hb : Bld w b n vn vu vw) (hW : w.alloc six0 = W)
    (hrA : Row wA (.slice (some ⟨gA, 0, none⟩) (n + 1) cA) (n + 1) (List.replicate (n + 1) 0)) (hsA : W.heap.size ≤ gA) (hfA : Fr (· < W.drew.heap.size) W.drew wA)
    (hrB : Row wB (.slice (some ⟨gB, 0, none⟩) (n + 1) cB) (n + 1) (List.replicate (n + 1) 0)) (hsB : wA.heap.size ≤ gB) (hfB : Fr (· < wA.heap.size) wA wB) :
    IG w b n vn vu vw (wB.alloc (.cells #[.slice (some ⟨gA, 0, none⟩) (n + 1) cA, nilS, vn, vu, .slice (some ⟨gB, 0, none⟩) (n + 1) cB, nilS] 31)) wB.heap.size gA cA gB cB nilS nilS (List.replicate (n + 1) 0) (List.replicate (n + 1) 0) := by
  have f1 : Fr (· < W.heap.size) W wA := ⟨hfA.os, hfA.tape, hfA.output, hfA.size, hfA.block⟩
  have z1 : W.heap.size ≤ wA.heap.size := f1.size
  have z2 := hfB.size
  have l1 := hrA.lt
  refine IG.start (wA := wA) (wB := wB) hb hW ((f1.trans (hfB.mono (fun k e => by omega))).alloc (fun k e => by omega) _) ((hrA.frN hfB).alloc _) (hrB.alloc _) (heap_alloc_new wB _) (by omega) hsA (by omega)

theorem start2 (hb : Bld w b n vn vu vw) (hW : w.alloc six0 = W)
    (hrA : Row wA (.slice (some ⟨gA, 0, none⟩) (n + 1) cA) (n + 1) (List.replicate (n + 1) 0)) (hsA : W.heap.size ≤ gA) (hfA : Fr (· < W.drew.heap.size) W.drew wA)
    (hrB : Row wB (.slice (some ⟨gB, 0, none⟩) (n + 1) cB) (n + 1) (List.replicate (n + 1) 0)) (hsB : wA.heap.size + 1 ≤ gB) (hfB : Fr (· < (wA.alloc six0).heap.size) (wA.alloc six0) wB) :
    IG w b n vn vu vw ((((((wB.setCell ⟨wA.heap.size, 0, none⟩ (.slice (some ⟨gA, 0, none⟩) (n + 1) cA)).setCell ⟨wA.heap.size, 1, none⟩ nilS).setCell ⟨wA.heap.size, 2, none⟩ vn).setCell ⟨wA.heap.size, 3, none⟩ vu).setCell ⟨wA.heap.size, 4, none⟩ (.slice (some ⟨gB, 0, none⟩) (n + 1) cB)).setCell ⟨wA.heap.size, 5, none⟩ nilS)
      wA.heap.size gA cA gB cB nilS nilS (List.replicate (n + 1) 0) (List.replicate (n + 1) 0) := by
  have f1 : Fr (· < W.heap.size) W wA := ⟨hfA.os, hfA.tape, hfA.output, hfA.size, hfA.block⟩
  have z1 : W.heap.size ≤ wA.heap.size := f1.size
  have z2 := hfB.size
  simp at z2
  have l1 := hrA.lt
  have f2 : Fr (· < W.heap.size) W wB := (f1.alloc (fun k e => by omega) six0).trans (hfB.mono (fun k e => by simp; omega))
  exact IG.start (wA := wA) (wB := wB) hb hW (f2.fill (by omega) _ _ _ _ _ _) (((hrA.alloc six0).frN hfB).fill (by simp [Value.ownBlock]; omega) _ _ _ _ _ _) (hrB.fill (by simp [Value.ownBlock]; omega) _ _ _ _ _ _) ((Six.fr hfB (heap_alloc_new wA _)).fill _ _ _ _ _ _) (by omega) hsA (by omega)

theorem start3 (hb : Bld w b n vn vu vw) (hW : w.alloc six0 = W)
    (hrA : Row wA (.slice (some ⟨gA, 0, none⟩) (n + 1) cA) (n + 1) (List.replicate (n + 1) 0)) (hsA : W.heap.size + 1 ≤ gA) (hfA : Fr (· < (W.alloc six0).drew.heap.size) (W.alloc six0).drew wA)
    (hrB : Row wB (.slice (some ⟨gB, 0, none⟩) (n + 1) cB) (n + 1) (List.replicate (n + 1) 0)) (hsB : wA.heap.size ≤ gB) (hfB : Fr (· < wA.heap.size) wA wB) :
    IG w b n vn vu vw ((((((wB.setCell ⟨W.heap.size, 0, none⟩ (.slice (some ⟨gA, 0, none⟩) (n + 1) cA)).setCell ⟨W.heap.size, 1, none⟩ nilS).setCell ⟨W.heap.size, 2, none⟩ vn).setCell ⟨W.heap.size, 3, none⟩ vu).setCell ⟨W.heap.size, 4, none⟩ (.slice (some ⟨gB, 0, none⟩) (n + 1) cB)).setCell ⟨W.heap.size, 5, none⟩ nilS)
      W.heap.size gA cA gB cB nilS nilS (List.replicate (n + 1) 0) (List.replicate (n + 1) 0) := by
  have f0 : Fr (· < (W.alloc six0).heap.size) (W.alloc six0) wA := ⟨hfA.os, hfA.tape, hfA.output, hfA.size, hfA.block⟩
  have z1 := f0.size
  simp at z1
  have z2 := hfB.size
  have l1 := hrA.lt
  have f2 : Fr (· < W.heap.size) W wB := (((Fr.refl _ W).alloc (fun _ e => e) six0).trans (f0.mono (fun k e => by simp; omega))).trans (hfB.mono (fun k e => by omega))
  exact IG.start (wA := wA) (wB := wB) hb hW (f2.fill (by omega) _ _ _ _ _ _) ((hrA.frN hfB).fill (by simp [Value.ownBlock]; omega) _ _ _ _ _ _) (hrB.fill (by simp [Value.ownBlock]; omega) _ _ _ _ _ _) ((Six.fr hfB (Six.fr f0 (heap_alloc_new W _))).fill _ _ _ _ _ _) (by omega) (by omega) (by omega)
end

end Go.Proofs.Qxb6003672a

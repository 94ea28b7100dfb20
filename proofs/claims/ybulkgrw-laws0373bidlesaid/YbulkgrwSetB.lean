/-
  LawS0373BIdle: what stands behind its three first loops.
-/
import Derived.Test.YbulkgrwSet
namespace Go.Proofs.Ybulkgrw
open Go.RowKit Go.Conc

structure Fx (W wr : World) (sb gp ib vb I0 V0 np ni nw : Nat) (fs pf : Nat → Value) : Prop where
  bel : Below W.heap.size W wr
  hs : Blk wr sb 66 34 fs
  hp : Blk wr gp 68 np pf
  hi : Blk wr ib 83 ni (fun j => .pointer (some ⟨I0 + 2 * j + 1, 0, none⟩))
  hI : ∀ j, j < ni → Blk wr (I0 + 2 * j + 1) 91 12 (litF (wkCells (.pointer none) (I0 + 2 * j) j false))
  hv : Blk wr vb 83 nw (fun j => .pointer (some ⟨V0 + 2 * j + 1, 0, none⟩))
  hV : ∀ j, j < nw → Blk wr (V0 + 2 * j + 1) 91 12 (litF (wkCells (.pointer none) (V0 + 2 * j) (-1) false))
  hC : ∀ j, j < nw → wr.heap[V0 + 2 * j]? = some (.chan 1 #[] false 0 0 false)
  o0 : W.heap.size ≤ sb
  o1 : sb < gp
  o2 : gp < ib
  o3 : ib < I0
  o4 : I0 + 2 * ni ≤ vb
  o5 : vb < V0
  o6 : V0 + 2 * nw ≤ wr.heap.size
theorem Fx.store {W wr : World} {sb gp ib vb I0 V0 np ni nw : Nat} {fs pf : Nat → Value} (h : Fx W wr sb gp ib vb I0 V0 np ni nw fs pf) (i : Nat) (v : Value) : Fx W (wr.setCell ⟨sb, i, none⟩ v) sb gp ib vb I0 V0 np ni nw (upd fs i v) pf := by
  have o0 := h.o0
  have o1 := h.o1
  have o2 := h.o2
  have o3 := h.o3
  have o4 := h.o4
  have o5 := h.o5
  have o6 := h.o6
  exact ⟨h.bel.setCell o0 v, h.hs.set i v, h.hp.other _ _ (by show gp ≠ sb; omega), h.hi.other _ _ (by show ib ≠ sb; omega), fun j hj => (h.hI j hj).other _ _ (by show I0 + 2 * j + 1 ≠ sb; omega), h.hv.other _ _ (by show vb ≠ sb; omega), fun j hj => (h.hV j hj).other _ _ (by show V0 + 2 * j + 1 ≠ sb; omega), fun j hj => (Below.heap_setCell _ _ _ _ (by show V0 + 2 * j ≠ sb; omega)).trans (h.hC j hj), o0, o1, o2, o3, o4, o5, by simpa using o6⟩
theorem Fx.keep {W wr wr' : World} {sb gp ib vb I0 V0 np ni nw : Nat} {fs pf : Nat → Value} (h : Fx W wr sb gp ib vb I0 V0 np ni nw fs pf) (hb : Below (V0 + 2 * nw) wr wr') : Fx W wr' sb gp ib vb I0 V0 np ni nw fs pf := by
  have o0 := h.o0
  have o1 := h.o1
  have o2 := h.o2
  have o3 := h.o3
  have o4 := h.o4
  have o5 := h.o5
  have o6 := h.o6
  exact ⟨h.bel.trans (hb.mono (by omega)), h.hs.keep hb (by omega), h.hp.keep hb (by omega), h.hi.keep hb (by omega), fun j hj => (h.hI j hj).keep hb (by omega), h.hv.keep hb (by omega), fun j hj => (h.hV j hj).keep hb (by omega), fun j hj => (hb.block _ (by omega)).trans (h.hC j hj), o0, o1, o2, o3, o4, o5, by have := hb.size; omega⟩
theorem Only.below {g B : Nat} {w w' : World} (h : Only g w w') (hB : B ≤ g) : Below B w w' := (h.but B [] (.inr hB)).to B (Nat.le_refl _) (by simp)
theorem Fx.alloc {W wr : World} {sb gp ib vb I0 V0 np ni nw : Nat} {fs pf : Nat → Value} (h : Fx W wr sb gp ib vb I0 V0 np ni nw fs pf) (o : Obj) : Fx W (wr.alloc o) sb gp ib vb I0 V0 np ni nw fs pf := h.keep ((Below.refl _ wr).alloc h.o6 o)
theorem Fx.set {W wr : World} {sb gp ib vb I0 V0 np ni nw : Nat} {fs pf : Nat → Value} (h : Fx W wr sb gp ib vb I0 V0 np ni nw fs pf) (a : Addr) (v : Value) (ha : V0 + 2 * nw ≤ a.block) : Fx W (wr.setCell a v) sb gp ib vb I0 V0 np ni nw fs pf := h.keep ((Below.refl _ wr).setCell ha v)
theorem Fx.drew {W wr : World} {sb gp ib vb I0 V0 np ni nw : Nat} {fs pf : Nat → Value} (h : Fx W wr sb gp ib vb I0 V0 np ni nw fs pf) : Fx W wr.drew sb gp ib vb I0 V0 np ni nw fs pf := h.keep (Below.refl _ wr).drew
theorem Fx.drewN {W wr : World} {sb gp ib vb I0 V0 np ni nw : Nat} {fs pf : Nat → Value} (h : Fx W wr sb gp ib vb I0 V0 np ni nw fs pf) (n : Nat) : Fx W (wr.drewN n) sb gp ib vb I0 V0 np ni nw fs pf := h.keep ⟨rfl, rfl, rfl, Nat.le_refl _, fun _ _ => rfl⟩

/-- While the idle processors' row is filled. -/
structure Qr (W wr : World) (sb gp ib vb I0 V0 np ni nw tb qb nq k : Nat) (fs pf : Nat → Value) : Prop where
  fx : Fx W wr sb gp ib vb I0 V0 np ni nw fs pf
  ht : Blk wr tb 83 nw (fun j => .pointer (some ⟨V0 + 2 * j + 1, 0, none⟩))
  hq : ∃ f, Blk wr qb 68 nq f ∧ ∀ j, j < k → f j = pf j
  o6 : V0 + 2 * nw ≤ tb
  o7 : tb < qb
  size : qb < wr.heap.size
theorem Qr.next {W wr : World} {sb gp ib vb I0 V0 np ni nw tb qb nq k : Nat} {fs pf : Nat → Value} (h : Qr W wr sb gp ib vb I0 V0 np ni nw tb qb nq k fs pf) (v : Value) (hv : v = pf k) :
    Qr W (wr.setCell ⟨qb, k, none⟩ v).drew sb gp ib vb I0 V0 np ni nw tb qb nq (k + 1) fs pf := by
  have o6 := h.o6
  have o7 := h.o7
  obtain ⟨f, h1, h2⟩ := h.hq
  refine ⟨(h.fx.set _ _ (by show _ ≤ qb; omega)).drew, (h.ht.other _ _ (by show tb ≠ qb; omega)).drew, ⟨_, (h1.set k v).drew, fun j hj => ?_⟩, o6, o7, by simpa using h.size⟩
  by_cases e : j = k
  · subst e; rw [upd_same, hv]
  · rw [upd_other _ _ _ _ e]; exact h2 j (by omega)
end Go.Proofs.Ybulkgrw

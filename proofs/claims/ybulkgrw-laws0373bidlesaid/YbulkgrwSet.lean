/-
  LawS0373BIdle: the parts of its set-up.
-/
import Derived.Test.YbulkgrwTail
namespace Go.Proofs.Ybulkgrw
open Go.RowKit Go.Conc

/-- The row of processors is laid in part: whatever its cells point at. -/
structure Pr (W wr : World) (sb gp np : Nat) (fs : Nat → Value) : Prop where
  bel : Below W.heap.size W wr
  hs : Blk wr sb 66 34 fs
  hp : ∃ pf, Blk wr gp 68 np pf ∧ ∀ j, j < np → ∃ x, pf j = .pointer x
theorem Pr.next {W wr : World} {sb gp np : Nat} {fs : Nat → Value} (h : Pr W wr sb gp np fs) (hsg : sb < gp) (hW : W.heap.size ≤ gp) (o : Obj) (k : Nat) (x : Option Addr) : Pr W ((wr.setCell ⟨gp, k, none⟩ (.pointer x)).alloc o) sb gp np fs := by
  obtain ⟨pf, h1, h2⟩ := h.hp
  refine ⟨(h.bel.setCell hW _).alloc (by have := h.bel.size; simp; omega) o, (h.hs.other _ _ (by show sb ≠ gp; omega)).alloc o, upd pf k (.pointer x), (h1.set k _).alloc o, fun j hj => ?_⟩
  by_cases e : j = k
  · subst e; exact ⟨x, upd_same _ _ _⟩
  · rw [upd_other _ _ _ _ e]; exact h2 j hj

/-- What newWorker leaves. -/
structure NW (wr v : World) (p : Value) : Prop where
  bel : Below wr.heap.size wr v
  size : v.heap.size = wr.heap.size + 2
  blk : Blk v (wr.heap.size + 1) 91 12 (litF (wkCells p wr.heap.size (-1) false))
  ch : v.heap[wr.heap.size]? = some (.chan 1 #[] false 0 0 false)
theorem newWorker_n (p : Option Addr) (w : World) : Calls Yba.prog 12 #[.pointer p] w fun e w' => e = .returned (.pointer (some ⟨w.heap.size + 1, 0, none⟩)) ∧ NW w w' (.pointer p) := by
  refine (newWorker_c p w).mono ?_
  rintro e w' ⟨he, hw⟩
  subst hw
  refine ⟨he, ⟨((Below.refl _ w).alloc (Nat.le_refl _) _).alloc (by simp) _, by simp, Blk.new _ _ 91 (by simp) rfl, ?_⟩⟩
  rw [Below.heap_alloc _ _ _ (by simp)]
  show (w.heap.push _)[w.heap.size]? = _
  rw [Array.getElem?_push_size]

theorem wk_at (p : Value) (c : Nat) (k : Int) (i : Nat) (hi : i < 12) : upd (litF (wkCells p c (-1) false)) 9 (.int .i64 k) i = litF (wkCells p c k false) i := by
  obtain rfl | rfl | rfl | rfl | rfl | rfl | rfl | rfl | rfl | rfl | rfl | rfl : i = 0 ∨ i = 1 ∨ i = 2 ∨ i = 3 ∨ i = 4 ∨ i = 5 ∨ i = 6 ∨ i = 7 ∨ i = 8 ∨ i = 9 ∨ i = 10 ∨ i = 11 := by omega
  all_goals rfl

/-- k idle workers laid. -/
structure Idl (wb0 wr : World) (ib I0 ni k : Nat) : Prop where
  bel : Below wb0.heap.size wb0 wr
  size : wr.heap.size = I0 + 2 * k
  row : ∃ f, Blk wr ib 83 ni f ∧ ∀ j, j < k → f j = .pointer (some ⟨I0 + 2 * j + 1, 0, none⟩)
  wk : ∀ j, j < k → Blk wr (I0 + 2 * j + 1) 91 12 (litF (wkCells (.pointer none) (I0 + 2 * j) j false))
theorem Idl.next {wb0 wr v : World} {ib I0 ni k : Nat} (h : Idl wb0 wr ib I0 ni k) (hib : ib < I0) (hbs : wb0.heap.size = ib) (n : NW wr v (.pointer none)) :
    Idl wb0 ((v.setCell ⟨wr.heap.size + 1, 9, none⟩ (.int .i64 k)).setCell ⟨ib, k, none⟩ (.pointer (some ⟨wr.heap.size + 1, 0, none⟩))) ib I0 ni (k + 1) := by
  have hs := h.size
  have hn := n.size
  obtain ⟨f, h1, h2⟩ := h.row
  refine ⟨?_, by simp; omega, ⟨upd f k (.pointer (some ⟨wr.heap.size + 1, 0, none⟩)), ((h1.keep n.bel h1.lt).other _ _ (by show ib ≠ wr.heap.size + 1; omega)).set k _, fun j hj => ?_⟩, fun j hj => ?_⟩
  · exact ((h.bel.trans (n.bel.mono (by omega))).setCell (by show _ ≤ wr.heap.size + 1; omega) _).setCell (by show _ ≤ ib; omega) _
  · by_cases e : j = k
    · subst e; rw [upd_same, hs]
    · rw [upd_other _ _ _ _ e]; exact h2 j (by omega)
  · by_cases e : j = k
    · subst e
      refine Blk.other ?_ _ _ (by show I0 + 2 * j + 1 ≠ ib; omega)
      have := (n.blk.set 9 (.int .i64 j)).to (wk_at _ _ _)
      rw [hs] at this ⊢
      exact this
    · have hb := h.wk j (by omega)
      exact ((hb.keep n.bel hb.lt).other _ _ (by show I0 + 2 * j + 1 ≠ wr.heap.size + 1; omega)).other _ _ (by show I0 + 2 * j + 1 ≠ ib; omega)

/-- k waiting workers laid. -/
structure Wt (wb0 wr : World) (vb V0 nw k : Nat) : Prop where
  bel : Below wb0.heap.size wb0 wr
  size : wr.heap.size = V0 + 2 * k
  row : ∃ f, Blk wr vb 83 nw f ∧ ∀ j, j < k → f j = .pointer (some ⟨V0 + 2 * j + 1, 0, none⟩)
  wk : ∀ j, j < k → Blk wr (V0 + 2 * j + 1) 91 12 (litF (wkCells (.pointer none) (V0 + 2 * j) (-1) false))
  ch : ∀ j, j < k → wr.heap[V0 + 2 * j]? = some (.chan 1 #[] false 0 0 false)
theorem Wt.next {wb0 wr v : World} {vb V0 nw k : Nat} (h : Wt wb0 wr vb V0 nw k) (hvb : vb < V0) (hbs : wb0.heap.size = vb) (n : NW wr v (.pointer none)) :
    Wt wb0 (v.setCell ⟨vb, k, none⟩ (.pointer (some ⟨wr.heap.size + 1, 0, none⟩))) vb V0 nw (k + 1) := by
  have hs := h.size
  have hn := n.size
  obtain ⟨f, h1, h2⟩ := h.row
  refine ⟨?_, by simp; omega, ⟨upd f k (.pointer (some ⟨wr.heap.size + 1, 0, none⟩)), (h1.keep n.bel h1.lt).set k _, fun j hj => ?_⟩, fun j hj => ?_, fun j hj => ?_⟩
  · exact (h.bel.trans (n.bel.mono (by omega))).setCell (by show _ ≤ vb; omega) _
  · by_cases e : j = k
    · subst e; rw [upd_same, hs]
    · rw [upd_other _ _ _ _ e]; exact h2 j (by omega)
  · by_cases e : j = k
    · subst e
      refine Blk.other ?_ _ _ (by show V0 + 2 * j + 1 ≠ vb; omega)
      have := n.blk
      rw [hs] at this
      exact this
    · have hb := h.wk j (by omega)
      exact (hb.keep n.bel hb.lt).other _ _ (by show V0 + 2 * j + 1 ≠ vb; omega)
  · rw [Below.heap_setCell _ _ _ _ (by show V0 + 2 * j ≠ vb; omega)]
    by_cases e : j = k
    · subst e; have := n.ch; rw [hs] at this; exact this
    · rw [n.bel.block _ (by omega)]; exact h.ch j (by omega)

theorem frame5 (x0 x1 x2 x3 x4 x5 x6 x7 : Value) : #[x0, x1, x2, x3, x4, x5, x6, x7] ++ Array.replicate (Yba.f5.ntmps - 8) undef = #[x0, x1, x2, x3, x4, x5, x6, x7, undef, undef, undef, undef, undef, undef, undef, undef, undef, undef, undef, undef, undef, undef, undef, undef, undef, undef, undef, undef, undef, undef, undef, undef, undef, undef, undef, undef, undef, undef, undef, undef, undef, undef, undef, undef, undef, undef, undef, undef, undef, undef, undef, undef, undef, undef, undef, undef, undef, undef, undef, undef, undef, undef, undef, undef, undef, undef, undef, undef, undef, undef, undef, undef, undef, undef, undef, undef, undef, undef, undef, undef, undef, undef, undef, undef, undef, undef, undef, undef, undef, undef, undef, undef, undef, undef, undef, undef, undef, undef, undef, undef, undef, undef, undef, undef, undef, undef, undef, undef, undef, undef, undef, undef, undef, undef, undef, undef, undef, undef, undef, undef, undef, undef, undef, undef, undef, undef, undef, undef, undef, undef, undef, undef, undef, undef, undef, undef, undef, undef, undef, undef, undef, undef, undef, undef, undef, undef, undef, undef, undef, undef, undef, undef, undef, undef, undef, undef, undef, undef, undef, undef, undef, undef, undef, undef, undef, undef, undef, undef, undef, undef, undef, undef, undef, undef, undef, undef, undef, undef, undef, undef, undef, undef, undef, undef, undef, undef, undef, undef, undef, undef, undef, undef, undef, undef, undef, undef, undef, undef, undef, undef, undef, undef, undef, undef, undef, undef, undef, undef, undef, undef, undef, undef, undef, undef, undef, undef, undef, undef, undef, undef, undef, undef, undef, undef, undef, undef, undef, undef, undef, undef, undef, undef, undef, undef, undef, undef, undef, undef, undef, undef, undef, undef, undef, undef, undef, undef, undef, undef, undef, undef, undef, undef, undef, undef, undef, undef, undef, undef, undef, undef, undef, undef, undef, undef, undef, undef, undef, undef, undef, undef, undef, undef, undef, undef, undef, undef, undef, undef, undef, undef, undef, undef, undef, undef, undef, undef, undef, undef, undef, undef, undef, undef, undef, undef, undef, undef, undef, undef, undef, undef, undef, undef, undef, undef, undef, undef, undef, undef, undef, undef, undef, undef, undef, undef, undef, undef, undef, undef, undef, undef, undef, undef, undef, undef, undef, undef, undef, undef, undef, undef, undef, undef, undef, undef, undef, undef, undef, undef, undef, undef, undef, undef, undef, undef, undef, undef, undef, undef, undef, undef, undef, undef, undef, undef, undef, undef, undef, undef, undef, undef, undef, undef, undef, undef, undef, undef, undef, undef, undef, undef, undef, undef, undef, undef, undef, undef, undef, undef, undef, undef, undef, undef, undef, undef, undef, undef, undef, undef, undef, undef, undef, undef, undef, undef, undef, undef, undef, undef, undef, undef, undef, undef, undef, undef, undef, undef, undef, undef, undef, undef, undef, undef, undef, undef, undef, undef, undef, undef, undef, undef, undef, undef, undef, undef, undef, undef, undef, undef, undef, undef] := by kernel_rfl
noncomputable def body5 : Code := Yba.f5.body.getD .skip
theorem enter5 (x0 x1 x2 x3 x4 x5 x6 x7 : Value) (w : World) (R : Ending → World → Prop) (h : wpN Yba.prog body5 (bodyPost Yba.prog Yba.f5 R) { tmps := #[x0, x1, x2, x3, x4, x5, x6, x7, undef, undef, undef, undef, undef, undef, undef, undef, undef, undef, undef, undef, undef, undef, undef, undef, undef, undef, undef, undef, undef, undef, undef, undef, undef, undef, undef, undef, undef, undef, undef, undef, undef, undef, undef, undef, undef, undef, undef, undef, undef, undef, undef, undef, undef, undef, undef, undef, undef, undef, undef, undef, undef, undef, undef, undef, undef, undef, undef, undef, undef, undef, undef, undef, undef, undef, undef, undef, undef, undef, undef, undef, undef, undef, undef, undef, undef, undef, undef, undef, undef, undef, undef, undef, undef, undef, undef, undef, undef, undef, undef, undef, undef, undef, undef, undef, undef, undef, undef, undef, undef, undef, undef, undef, undef, undef, undef, undef, undef, undef, undef, undef, undef, undef, undef, undef, undef, undef, undef, undef, undef, undef, undef, undef, undef, undef, undef, undef, undef, undef, undef, undef, undef, undef, undef, undef, undef, undef, undef, undef, undef, undef, undef, undef, undef, undef, undef, undef, undef, undef, undef, undef, undef, undef, undef, undef, undef, undef, undef, undef, undef, undef, undef, undef, undef, undef, undef, undef, undef, undef, undef, undef, undef, undef, undef, undef, undef, undef, undef, undef, undef, undef, undef, undef, undef, undef, undef, undef, undef, undef, undef, undef, undef, undef, undef, undef, undef, undef, undef, undef, undef, undef, undef, undef, undef, undef, undef, undef, undef, undef, undef, undef, undef, undef, undef, undef, undef, undef, undef, undef, undef, undef, undef, undef, undef, undef, undef, undef, undef, undef, undef, undef, undef, undef, undef, undef, undef, undef, undef, undef, undef, undef, undef, undef, undef, undef, undef, undef, undef, undef, undef, undef, undef, undef, undef, undef, undef, undef, undef, undef, undef, undef, undef, undef, undef, undef, undef, undef, undef, undef, undef, undef, undef, undef, undef, undef, undef, undef, undef, undef, undef, undef, undef, undef, undef, undef, undef, undef, undef, undef, undef, undef, undef, undef, undef, undef, undef, undef, undef, undef, undef, undef, undef, undef, undef, undef, undef, undef, undef, undef, undef, undef, undef, undef, undef, undef, undef, undef, undef, undef, undef, undef, undef, undef, undef, undef, undef, undef, undef, undef, undef, undef, undef, undef, undef, undef, undef, undef, undef, undef, undef, undef, undef, undef, undef, undef, undef, undef, undef, undef, undef, undef, undef, undef, undef, undef, undef, undef, undef, undef, undef, undef, undef, undef, undef, undef, undef, undef, undef, undef, undef, undef, undef, undef, undef, undef, undef, undef, undef, undef, undef, undef, undef, undef, undef, undef, undef, undef, undef, undef, undef, undef, undef, undef, undef, undef, undef, undef, undef, undef, undef, undef, undef, undef, undef, undef, undef, undef, undef, undef, undef, undef, undef, undef, undef, undef, undef, undef, undef, undef, undef, undef], defers := [] } w) : Calls Yba.prog 5 #[x0, x1, x2, x3, x4, x5, x6, x7] w R := by
  refine calls_of_wpN (c := body5) Yba.func5 rfl ?_
  have e := frame5 x0 x1 x2 x3 x4 x5 x6 x7
  show wpN Yba.prog _ _ { tmps := #[x0, x1, x2, x3, x4, x5, x6, x7] ++ Array.replicate (Yba.f5.ntmps - 8) undef, defers := [] } w
  rw [e]
  exact h
end Go.Proofs.Ybulkgrw

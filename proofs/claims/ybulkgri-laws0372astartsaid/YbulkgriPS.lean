/-
  THE PIECES AS LawS0372AStart BUILDS THEM, one a round.
-/
import Derived.Test.YbulkgriStart
namespace Go.Proofs.Ybulkgri
open Go.RowKit

theorem set_other {w : World} {P Q i j : Nat} {u : Value} (h : P ≠ Q ∨ i ≠ j) : (w.setCell ⟨P, i, none⟩ u).cell? ⟨Q, j, none⟩ = w.cell? ⟨Q, j, none⟩ :=
  World.cell?_setCell_other _ _ _ _ (by intro e; cases e; rcases h with h | h <;> exact h rfl)

/-- Octets that lie above block P. -/
def RBg (P : Nat) (w : World) (v : Value) (zs : List Int) : Prop :=
  ∃ a c, v = .slice a zs.length c ∧ (0 < zs.length → ∃ b o, a = some ⟨b, o, none⟩ ∧ P < b ∧ ∀ j, j < zs.length → w.cell? ⟨b, o + j, none⟩ = some (.int .u8 (zs.getD j 0)))

theorem RBg.rb {P : Nat} {w : World} {v : Value} {zs : List Int} (h : RBg P w v zs) : RB w v zs := by
  obtain ⟨a, c, rfl, h⟩ := h
  exact ⟨a, c, rfl, fun hp => by obtain ⟨b, o, e, _, hc⟩ := h hp; exact ⟨b, o, e, hc⟩⟩
theorem RBg.keep {P : Nat} {w w' : World} {v : Value} {zs : List Int} (h : RBg P w v zs) (hb : Below w.heap.size w w') : RBg P w' v zs := by
  obtain ⟨a, c, rfl, h⟩ := h
  refine ⟨a, c, rfl, fun hp => ?_⟩
  obtain ⟨b, o, rfl, hP, hc⟩ := h hp
  exact ⟨b, o, rfl, hP, fun j hj => (hb.cell (cell_lt (hc j hj))).trans (hc j hj)⟩
theorem RBg.set {P : Nat} {w : World} {v : Value} {zs : List Int} (h : RBg P w v zs) (i : Nat) (u : Value) : RBg P (w.setCell ⟨P, i, none⟩ u) v zs := by
  obtain ⟨a, c, rfl, h⟩ := h
  refine ⟨a, c, rfl, fun hp => ?_⟩
  obtain ⟨b, o, rfl, hP, hc⟩ := h hp
  exact ⟨b, o, rfl, hP, fun j hj => (set_other (.inl (by omega))).trans (hc j hj)⟩

theorem own_RBg {w : World} {P base n : Nat} {v : Value} {zs : List Int} (h : w.ownsRow base 5 1 v n (zs.map (Value.int .u8))) (hP : P < base) : RBg P w v zs := by
  obtain ⟨a, c, rfl, hc⟩ := (own_RB h).1
  refine ⟨a, c, rfl, fun hp => ?_⟩
  obtain ⟨b, o, rfl, hcell⟩ := hc hp
  refine ⟨b, o, rfl, ?_, hcell⟩
  have := (own_base h b rfl).1
  omega

structure PS (w : World) (Pb len k : Nat) (off : Nat → Int) (hs : Nat → Value) (bs : Nat → List Int) : Prop where
  lt : Pb < w.heap.size
  all : ∀ i, i < len * 3 → (w.cell? ⟨Pb, i, none⟩).isSome = true
  fz : ∀ i, w.frozen? ⟨Pb, i, none⟩ = false
  cell : ∀ j, j < k → w.cell? ⟨Pb, j * 3, none⟩ = some (.int .i64 (off j)) ∧ w.cell? ⟨Pb, j * 3 + 1, none⟩ = some (.int .i64 (bs j).length) ∧ w.cell? ⟨Pb, j * 3 + 2, none⟩ = some (hs j)
  row : ∀ j, j < k → RBg Pb w (hs j) (bs j)

theorem PS.keep {w w' : World} {Pb len k : Nat} {off : Nat → Int} {hs : Nat → Value} {bs : Nat → List Int} (h : PS w Pb len k off hs bs) (hb : Below w.heap.size w w') : PS w' Pb len k off hs bs := by
  have hc : ∀ i, w'.cell? ⟨Pb, i, none⟩ = w.cell? ⟨Pb, i, none⟩ := fun i => hb.cell (p := ⟨Pb, i, none⟩) h.lt
  have hf : ∀ i, w'.frozen? ⟨Pb, i, none⟩ = w.frozen? ⟨Pb, i, none⟩ := fun i => hb.frozen (p := ⟨Pb, i, none⟩) h.lt
  exact ⟨Nat.lt_of_lt_of_le h.lt hb.size, fun i hi => by rw [hc]; exact h.all i hi, fun i => by rw [hf]; exact h.fz i, fun j hj => by rw [hc, hc, hc]; exact h.cell j hj, fun j hj => (h.row j hj).keep hb⟩

theorem frozen_set {w : World} {P i j : Nat} {u : Value} : (w.setCell ⟨P, i, none⟩ u).frozen? ⟨P, j, none⟩ = w.frozen? ⟨P, j, none⟩ := by
  simp only [World.frozen?, World.setCell, Array.getElem?_modify]
  cases h : w.heap[P]? with
  | none => simp
  | some o => cases o <;> simp

theorem PS.step {w : World} {Pb len k : Nat} {off : Nat → Int} {hs : Nat → Value} {bs : Nat → List Int} {v : Value} (h : PS w Pb len k off hs bs) (hk : k < len) (hv : RBg Pb w v (bs k)) :
    PS (((w.setCell ⟨Pb, k * 3, none⟩ (.int .i64 (off k))).setCell ⟨Pb, k * 3 + 1, none⟩ (.int .i64 (bs k).length)).setCell ⟨Pb, k * 3 + 2, none⟩ v) Pb len (k + 1) off (fun j => if j = k then v else hs j) bs := by
  have a0 := h.all (k * 3) (by omega)
  have a1 := h.all (k * 3 + 1) (by omega)
  have a2 := h.all (k * 3 + 2) (by omega)
  have s0 : (((w.setCell ⟨Pb, k * 3, none⟩ (.int .i64 (off k))).setCell ⟨Pb, k * 3 + 1, none⟩ (.int .i64 (bs k).length)).setCell ⟨Pb, k * 3 + 2, none⟩ v).cell? ⟨Pb, k * 3, none⟩ = some (.int .i64 (off k)) := by
    rw [set_other (.inr (by omega)), set_other (.inr (by omega)), World.cell?_setCell_same' _ _ _ a0]
  have s1 : (((w.setCell ⟨Pb, k * 3, none⟩ (.int .i64 (off k))).setCell ⟨Pb, k * 3 + 1, none⟩ (.int .i64 (bs k).length)).setCell ⟨Pb, k * 3 + 2, none⟩ v).cell? ⟨Pb, k * 3 + 1, none⟩ = some (.int .i64 (bs k).length) := by
    rw [set_other (.inr (by omega)), World.cell?_setCell_same' _ _ _ (by rw [set_other (.inr (by omega))]; exact a1)]
  have s2 : (((w.setCell ⟨Pb, k * 3, none⟩ (.int .i64 (off k))).setCell ⟨Pb, k * 3 + 1, none⟩ (.int .i64 (bs k).length)).setCell ⟨Pb, k * 3 + 2, none⟩ v).cell? ⟨Pb, k * 3 + 2, none⟩ = some v := by
    rw [World.cell?_setCell_same' _ _ _ (by rw [set_other (.inr (by omega)), set_other (.inr (by omega))]; exact a2)]
  have far : ∀ i, i ≠ k * 3 → i ≠ k * 3 + 1 → i ≠ k * 3 + 2 → (((w.setCell ⟨Pb, k * 3, none⟩ (.int .i64 (off k))).setCell ⟨Pb, k * 3 + 1, none⟩ (.int .i64 (bs k).length)).setCell ⟨Pb, k * 3 + 2, none⟩ v).cell? ⟨Pb, i, none⟩ = w.cell? ⟨Pb, i, none⟩ := by
    intro i h0 h1 h2
    rw [set_other (.inr (Ne.symm h2)), set_other (.inr (Ne.symm h1)), set_other (.inr (Ne.symm h0))]
  refine ⟨by simpa [World.setCell] using h.lt, fun i hi => ?_, fun i => ?_, fun j hj => ?_, fun j hj => ?_⟩
  · by_cases e0 : i = k * 3
    · rw [e0, s0]; rfl
    · by_cases e1 : i = k * 3 + 1
      · rw [e1, s1]; rfl
      · by_cases e2 : i = k * 3 + 2
        · rw [e2, s2]; rfl
        · rw [far i e0 e1 e2]; exact h.all i hi
  · rw [frozen_set, frozen_set, frozen_set]; exact h.fz i
  · by_cases e : j = k
    · subst e
      exact ⟨s0, s1, by simpa using s2⟩
    · have hjk : j < k := by omega
      rw [far _ (by omega) (by omega) (by omega), far _ (by omega) (by omega) (by omega), far _ (by omega) (by omega) (by omega)]
      simpa [e] using h.cell j hjk
  · by_cases e : j = k
    · subst e
      simpa using ((hv.set _ _).set _ _).set _ _
    · simpa [e] using (((h.row j (by omega)).set _ _).set _ _).set _ _

theorem PS.pieces {w : World} {Pb len : Nat} {off : Nat → Int} {hs : Nat → Value} {bs : Nat → List Int} (h : PS w Pb len len off hs bs) : Pieces w Pb len off hs bs := ⟨h.cell, fun j hj => (h.row j hj).rb⟩

/-- The offset that piece j is given. -/
def offOf (sk : Nat → Int) (bs : Nat → List Int) (j : Nat) : Int := if sk j % 4 = 1 then sumL bs j + 1 else if sk j % 4 = 2 then sumL bs j - 1 else sumL bs j

theorem Yba.info28 : (Yba.prog.info? 28).map (fun i => (i.zero, i.size, i.bytes)) = some (some (.agg #[.int .i64 0, .int .i64 0, .slice none 0 0]), 3, 40) := by kernel_rfl

theorem PS.start {w : World} {base Pb len : Nat} {xs : List Value} (off : Nat → Int) (hs : Nat → Value) (bs : Nat → List Int) (h : w.ownsRow base 28 3 (.slice (some ⟨Pb, 0, none⟩) len len) len xs) : PS w Pb len 0 off hs bs := by
  rcases h.2 with ⟨e, _⟩ | ⟨g, cap, cur, hv, hg, hh, hnc, hcm, hcs, htk⟩
  · cases e
  · cases hv
    refine ⟨heap_lt hh, fun i hi => ?_, fun i => frozen_of hh, fun j hj => absurd hj (by omega), fun j hj => absurd hj (by omega)⟩
    rw [cell_of hh]
    have : i < cur.size := by omega
    simp [this]
end Go.Proofs.Ybulkgri

/-
  A REGION THAT DRAWS ITS ORDER, BY AN INVARIANT: whichever operation comes up, the invariant goes on.
-/
import Derived.Test.YbulkgrwMem
namespace Go.Proofs.Ybulkgrw
open Go.RowKit

theorem cnt_set : ∀ (l : List Bool) (i : Nat), l[i]? = some false → (l.set i true).count false + 1 = l.count false
  | [], i, h => by simp at h
  | b :: l, 0, h => by simp at h; subst h; simp
  | b :: l, i + 1, h => by
    simp at h ⊢
    have := cnt_set l i h
    simp only [List.count_cons]
    omega

section
variable {P : Program} {ops : Array Oper} {Q : Exit → Act → World → Prop}

theorem wpAny_inv (Inv : Array Bool → Act → World → Prop)
    (hstep : ∀ listed a w i o, ops[i]? = some o → Inv listed a w → listed.getD i true = false → (∀ e ∈ o.after, Region.binds .any e = true → listed.getD e.on false = true) →
      wpOp P ops Q i (fun a' w' => Inv (listed.setIfInBounds i true) a' w') a w)
    (hdone : ∀ listed a w, Inv listed a w → Region.ready .any ops listed = [] → Q .normal a w) :
    ∀ (fuel : Nat) (listed : Array Bool) (a : Act) (w : World), listed.toList.count false ≤ fuel → Inv listed a w → wpAny P .any ops Q fuel listed a w := by
  intro fuel
  induction fuel with
  | zero =>
    intro listed a w hc h
    have : Region.ready .any ops listed = [] := by
      rw [List.eq_nil_iff_forall_not_mem]
      intro i hi
      have h1 := (mem_ready.1 hi).1
      have h2 : listed.toList[i]? = some false := by
        rcases Nat.lt_or_ge i listed.size with g | g
        · simp [g] at h1 ⊢; exact h1
        · simp [Array.getElem?_eq_none g] at h1
      have h3 := List.count_pos_iff.2 (List.mem_of_getElem? h2)
      omega
    exact ⟨this, hdone _ _ _ h this⟩
  | succ fuel ih =>
    intro listed a w hc h
    refine ⟨fun h0 => hdone _ _ _ h h0, fun i hi => ?_⟩
    obtain ⟨h1, o, ho, hall⟩ := mem_ready.1 hi
    have h2 : listed.toList[i]? = some false := by
      rcases Nat.lt_or_ge i listed.size with g | g
      · simp [g] at h1 ⊢; exact h1
      · simp [Array.getElem?_eq_none g] at h1
    refine wpOp_mono (fun a' w' h' => ih _ _ _ ?_ h') (hstep listed a w i o ho h h1 hall)
    have := cnt_set listed.toList i h2
    simp only [Array.toList_setIfInBounds]
    omega

/-- The steps, one a row. -/
def Steps1 (P : Program) (Q : Exit → Act → World → Prop) (Inv : Array Bool → Act → World → Prop) : Nat → List Oper → Prop
  | _, [] => True
  | i, o :: l => (o.guard = none ∧ ∀ listed a w, Inv listed a w → (∀ e ∈ o.after.toList, Region.binds .any e = true → listed.getD e.on false = true) →
      o.wp P a w (fun a' w' => Inv (listed.setIfInBounds i true) a' w') Q) ∧ Steps1 P Q Inv (i + 1) l

theorem Steps1.at {Inv : Array Bool → Act → World → Prop} : ∀ (l : List Oper) (k i : Nat) (o : Oper), Steps1 P Q Inv k l → l[i]? = some o →
    (o.guard = none ∧ ∀ listed a w, Inv listed a w → (∀ e ∈ o.after.toList, Region.binds .any e = true → listed.getD e.on false = true) →
      o.wp P a w (fun a' w' => Inv (listed.setIfInBounds (k + i) true) a' w') Q)
  | [], _, _, _, _, h => by simp at h
  | x :: l, k, 0, o, hs, h => by simp at h; subst h; exact hs.1
  | x :: l, k, i + 1, o, hs, h => by
    simp at h
    have := Steps1.at l (k + 1) i o hs.2 h
    rw [show k + 1 + i = k + (i + 1) by omega] at this
    exact this

def acyc : Nat → List Oper → Bool
  | _, [] => true
  | i, o :: l => o.after.toList.all (fun e => decide (e.on < i)) && acyc (i + 1) l
theorem acyc_at : ∀ (l : List Oper) (k i : Nat) (o : Oper), acyc k l = true → l[i]? = some o → ∀ e ∈ o.after.toList, e.on < k + i
  | [], _, _, _, _, h => by simp at h
  | x :: l, k, 0, o, hs, h => by
    simp at h
    subst h
    simp only [acyc, Bool.and_eq_true, List.all_eq_true, decide_eq_true_eq] at hs
    simpa using hs.1
  | x :: l, k, i + 1, o, hs, h => by
    simp at h
    simp only [acyc, Bool.and_eq_true] at hs
    have := acyc_at l (k + 1) i o hs.2 h
    intro e he
    have := this e he
    omega

theorem wp_region_inv {id : Nat} {l : List Oper} {a : Act} {w : World} (hm : P.follows .mixedOrders = true) (Inv : Array Bool → Act → World → Prop)
    (h0 : Inv (Array.replicate l.length false) a { w with drawn := w.drawn + 1 })
    (hs : Steps1 P Q Inv 0 l)
    (hd : ∀ listed a w, Inv listed a w → (∀ i, i < l.length → listed.getD i false = true) → Q .normal a w)
    (hsize : ∀ listed a w, Inv listed a w → listed.size = l.length)
    (hac : acyc 0 l = true) : (Code.region id l.toArray true).wp P Q a w := by
  have hacyc : ∀ (i : Nat) (o : Oper), l[i]? = some o → ∀ e ∈ o.after.toList, e.on < i := fun i o ho e he => by simpa using acyc_at l 0 i o hac ho e he
  refine wp_region_any hm (wpAny_inv Inv ?_ ?_ _ _ _ _ ?_ (by simpa using h0))
  · intro listed a w i o ho hi _ hall
    have ho' : l[i]? = some o := by simpa using ho
    obtain ⟨hg, hw⟩ := Steps1.at l 0 i o hs ho'
    unfold wpOp
    simp only [ho]
    have : Region.wanted o (yielded l.toArray a.tmps) = true := by unfold Region.wanted; rw [hg]
    rw [if_pos this]
    have := hw listed a w hi (fun e he hb => hall e (by simpa using he) hb)
    rw [Nat.zero_add] at this
    exact .inl this
  · intro listed a w hi hr
    refine hd listed a w hi ?_
    intro i
    induction i using Nat.strongRecOn with
    | ind i ih =>
      intro hlt
      cases hx : listed.getD i false with
      | true => rfl
      | false =>
        exfalso
        have hsz := hsize _ _ _ hi
        obtain ⟨o, ho⟩ : ∃ o, l[i]? = some o := ⟨l[i], by simp [hlt]⟩
        have hmem : i ∈ Region.ready .any l.toArray listed := mem_ready.2 ⟨by
            have : i < listed.size := by omega
            simp [this] at hx ⊢
            exact hx, o, by simpa using ho, fun e he hb => ih e.on (hacyc i o ho e (by simpa using he)) (by have := hacyc i o ho e (by simpa using he); omega)⟩
        rw [hr] at hmem
        cases hmem
  · simp
end
end Go.Proofs.Ybulkgrw

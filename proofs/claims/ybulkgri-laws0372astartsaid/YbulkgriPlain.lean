/-
  THE PLAIN WALK over extension headers: no Go in sight.
-/
namespace Go.Proofs.Ybulkgri

/-- At place p (p = q + 1) a whole extension header lies: 'x' the octets, 'len' their number. -/
def okAt (x : Nat → Int) (len q : Nat) : Bool := decide (x q ≠ 0 ∧ q + 1 < len ∧ x (q + 1) ≠ 0 ∧ q + 1 + 4 * (x (q + 1)).toNat ≤ len)

/-- Where the walk stops, less one: from place q + 1 on. -/
def wk (x : Nat → Int) (len : Nat) : Nat → Nat → Nat
  | 0, q => q
  | f + 1, q => if okAt x len q then wk x len f (q + 4 * (x (q + 1)).toNat) else q

theorem okAt_iff {x : Nat → Int} {len q : Nat} : okAt x len q = true ↔ (x q ≠ 0 ∧ q + 1 < len ∧ x (q + 1) ≠ 0 ∧ q + 1 + 4 * (x (q + 1)).toNat ≤ len) := by
  simp [okAt]

theorem okAt_grow {x : Nat → Int} {len q : Nat} (h0 : ∀ i, 0 ≤ x i) (h : okAt x len q = true) : 4 ≤ 4 * (x (q + 1)).toNat := by
  have := (okAt_iff.1 h).2.2.1
  have := h0 (q + 1)
  omega

theorem okAt_out {x : Nat → Int} {len r : Nat} (h : len ≤ r) : okAt x len r = false := by
  cases hc : okAt x len r with
  | false => rfl
  | true => have := (okAt_iff.1 hc).2.1; omega

theorem wk_any {x : Nat → Int} {len : Nat} (h0 : ∀ i, 0 ≤ x i) : ∀ (a b r : Nat), len - r ≤ a → len - r ≤ b → wk x len a r = wk x len b r := by
  intro a
  induction a with
  | zero =>
    intro b r ha hb
    cases b with
    | zero => rfl
    | succ b => simp [wk, okAt_out (x := x) (show len ≤ r by omega)]
  | succ a iha =>
    intro b r ha hb
    cases b with
    | zero => simp [wk, okAt_out (x := x) (show len ≤ r by omega)]
    | succ b =>
      by_cases hc : okAt x len r = true
      · have := okAt_grow h0 hc
        simp only [wk, hc, if_true]
        exact iha b _ (by omega) (by omega)
      · simp [wk, hc]

/-- Where the walk from q stops. -/
def stopAt (x : Nat → Int) (len q : Nat) : Nat := wk x len (len - q) q

theorem stopAt_step {x : Nat → Int} {len q : Nat} (h0 : ∀ i, 0 ≤ x i) (h : okAt x len q = true) : stopAt x len (q + 4 * (x (q + 1)).toNat) = stopAt x len q := by
  have hl := (okAt_iff.1 h).2.1
  have hg := okAt_grow h0 h
  unfold stopAt
  obtain ⟨m, hm⟩ : ∃ m, len - q = m + 1 := ⟨len - q - 1, by omega⟩
  rw [hm]
  simp only [wk, h, if_true]
  exact wk_any h0 _ _ _ (Nat.le_refl _) (by omega)

theorem stopAt_end {x : Nat → Int} {len q : Nat} (h : okAt x len q = false) : stopAt x len q = q := by
  unfold stopAt
  cases len - q with
  | zero => rfl
  | succ m => simp [wk, h]

theorem wk_stop {x : Nat → Int} {len : Nat} (h0 : ∀ i, 0 ≤ x i) : ∀ (a r : Nat), len - r ≤ a → okAt x len (wk x len a r) = false ∧ r ≤ wk x len a r ∧ (r + 1 ≤ len → wk x len a r + 1 ≤ len) := by
  intro a
  induction a with
  | zero => intro r h; exact ⟨okAt_out (by simp [wk]; omega), Nat.le_refl _, fun h => h⟩
  | succ a iha =>
    intro r h
    by_cases hc : okAt x len r = true
    · have := okAt_grow h0 hc
      have hle := (okAt_iff.1 hc).2.2.2
      simp only [wk, hc, if_true]
      obtain ⟨h1, h2, h3⟩ := iha (r + 4 * (x (r + 1)).toNat) (by omega)
      exact ⟨h1, by omega, fun _ => h3 (by omega)⟩
    · simp [wk, hc]

theorem stopAt_stop {x : Nat → Int} {len q : Nat} (h0 : ∀ i, 0 ≤ x i) : okAt x len (stopAt x len q) = false ∧ q ≤ stopAt x len q ∧ (q + 1 ≤ len → stopAt x len q + 1 ≤ len) := wk_stop h0 _ _ (Nat.le_refl _)
end Go.Proofs.Ybulkgri

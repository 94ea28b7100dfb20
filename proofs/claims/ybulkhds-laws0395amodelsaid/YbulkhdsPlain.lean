/-
  THE PLAIN LAW: the different ones among the first k strings, each at its first place.
-/
namespace Go.Proofs.Ybulkhds

theorem bytes_ext {s t : ByteArray} (h : s.data.toList = t.data.toList) : s = t := by
  cases s; cases t
  simp at h
  rw [h]

/-- Is the string on the list? -/
def memB (s : ByteArray) (l : List ByteArray) : Bool := l.any fun t => t.data.toList == s.data.toList
theorem memB_iff {s : ByteArray} {l : List ByteArray} : memB s l = true ↔ s ∈ l := by
  simp only [memB, List.any_eq_true, beq_iff_eq]
  constructor
  · rintro ⟨t, ht, e⟩
    rw [← bytes_ext e]; exact ht
  · intro h
    exact ⟨s, h, rfl⟩

def dist (ss : Nat → ByteArray) : Nat → List ByteArray
  | 0 => []
  | k + 1 => if memB (ss k) (dist ss k) then dist ss k else dist ss k ++ [ss k]

theorem dist_le (ss : Nat → ByteArray) : ∀ k, (dist ss k).length ≤ k
  | 0 => Nat.le_refl _
  | k + 1 => by
    have := dist_le ss k
    simp only [dist]
    split
    · omega
    · simp; omega

theorem dist_mem (ss : Nat → ByteArray) : ∀ k i, i < k → ss i ∈ dist ss k
  | k + 1, i, h => by
    simp only [dist]
    rcases Nat.lt_or_ge i k with g | g
    · have := dist_mem ss k i g
      split
      · exact this
      · exact List.mem_append_left _ this
    · have e : i = k := by omega
      subst e
      split
      · exact memB_iff.1 (by assumption)
      · simp

/-- All alike. -/
def same (ss : Nat → ByteArray) (len : Nat) : Prop := ∀ i, i < len → ss i = ss 0

theorem dist_same {ss : Nat → ByteArray} : ∀ {k : Nat}, 0 < k → same ss k → dist ss k = [ss 0]
  | k + 1, _, h => by
    rcases Nat.eq_zero_or_pos k with g | g
    · subst g; rfl
    · have h1 := dist_same g (fun i hi => h i (by omega))
      simp only [dist, h1]
      rw [if_pos (by rw [memB_iff, h k (by omega)]; simp)]

theorem dist_other {ss : Nat → ByteArray} {k : Nat} (h : ¬ (0 < k ∧ same ss k)) : (dist ss k).length ≠ 1 := by
  intro h1
  apply h
  obtain ⟨x, hx⟩ := List.length_eq_one_iff.1 h1
  have hk : 0 < k := by
    rcases Nat.eq_zero_or_pos k with g | g
    · subst g; simp [dist] at hx
    · exact g
  refine ⟨hk, fun i hi => ?_⟩
  have a := dist_mem ss k i hi
  have b := dist_mem ss k 0 hk
  rw [hx] at a b
  simp at a b
  rw [a, b]
end Go.Proofs.Ybulkhds

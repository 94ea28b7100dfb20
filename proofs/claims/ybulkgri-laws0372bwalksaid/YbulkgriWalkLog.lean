/-
  walkExtensions with the logging yield; zzs0372beq on one and the same octets.
-/
import Derived.Test.YbulkgriLog
namespace Go.Proofs.Ybulkgri
open Go.RowKit

/-- Where the k-th header lies, less one. -/
def posOf (x : Nat → Int) (q0 : Nat) : Nat → Nat
  | 0 => q0
  | k + 1 => posOf x q0 k + 4 * (x (posOf x q0 k + 1)).toNat

/-- n headers were handed over, and then the walk stopped. -/
structure Ran (x : Nat → Int) (len q0 : Nat) (lim : Int) (n : Nat) : Prop where
  ok : ∀ j, j < n → okAt x len (posOf x q0 j) = true
  go : ∀ j : Nat, 1 ≤ j → j < n → (j : Int) ≠ lim
  stop : okAt x len (posOf x q0 n) = false ∨ ((n : Int) = lim ∧ 1 ≤ n)

theorem pos_le {x : Nat → Int} {len q0 : Nat} (h0 : ∀ i, 0 ≤ x i) (hq : q0 + 1 ≤ len) : ∀ n, (∀ j, j < n → okAt x len (posOf x q0 j) = true) → 4 * n ≤ posOf x q0 n ∧ posOf x q0 n + 1 ≤ len := by
  intro n
  induction n with
  | zero => intro _; exact ⟨by omega, hq⟩
  | succ n ih =>
    intro h
    have hn := h n (by omega)
    have hg := okAt_grow h0 hn
    have hl := (okAt_iff.1 hn).2.2.2
    have := (ih (fun j hj => h j (by omega))).1
    simp only [posOf]
    omega

def typOf (x : Nat → Int) (q0 : Nat) (n : Nat) : List Value := (List.range n).map fun j => .int .u8 (x (posOf x q0 j))
def contV (b off cap : Nat) (x : Nat → Int) (q : Nat) : Value := .slice (some ⟨b, off + (q + 1 + 1), none⟩) (4 * (x (q + 1)).toNat - 2) (cap - (q + 1 + 1))
def conOf (b off cap : Nat) (x : Nat → Int) (q0 n : Nat) : List Value := (List.range n).map fun j => contV b off cap x (posOf x q0 j)
theorem typ_succ (x : Nat → Int) (q0 n : Nat) : typOf x q0 (n + 1) = typOf x q0 n ++ [.int .u8 (x (posOf x q0 n))] := by simp [typOf, List.range_succ]
theorem con_succ (b off cap : Nat) (x : Nat → Int) (q0 n : Nat) : conOf b off cap x q0 (n + 1) = conOf b off cap x q0 n ++ [contV b off cap x (posOf x q0 n)] := by simp [conOf, List.range_succ]

theorem ret_int {k : IntKind} {a b : Int} (h : a = b) : Ending.returned (.int k a) = .returned (.int k b) := by rw [h]
theorem int_eq {k : IntKind} {a b : Int} (h : a = b) : Value.int k a = .int k b := by rw [h]
theorem Log.lt {w : World} {B : Nat} {lim : Int} {n : Nat} {ts cs : List Value} (h : Log w B lim n ts cs) : B + 3 < w.heap.size := heap_lt h.cal

theorem Log.grow {w w' : World} {B : Nat} {lim : Int} {n : Nat} {ts cs : List Value} (h : Log w B lim n ts cs) (hb : Below w.heap.size w w') : Log w' B lim n ts cs := by
  have hl := h.lt
  obtain ⟨h1, ⟨v1, h2, h3⟩, ⟨v2, h4, h5⟩, h6⟩ := h
  refine ⟨(hb.block B (by omega)).trans h1, ⟨v1, (hb.block (B + 1) (by omega)).trans h2, own_keep h3 fun k hk => ?_⟩, ⟨v2, (hb.block (B + 2) (by omega)).trans h4, own_keep h5 fun k hk => ?_⟩, (hb.block (B + 3) (by omega)).trans h6⟩
  · obtain ⟨_, c, hk2⟩ := own_base h3 k hk
    exact hb.block k (heap_lt hk2)
  · obtain ⟨_, c, hk2⟩ := own_base h5 k hk
    exact hb.block k (heap_lt hk2)

set_option maxHeartbeats 2000000 in
theorem walk_log (b off len cap : Nat) (x : Nat → Int) (q0 B : Nat) (lim : Int) (w : World) (hbB : b < B) (hc : ∀ i, i < len → w.cell? ⟨b, off + i, none⟩ = some (.int .u8 (x i))) (hx : ∀ i, 0 ≤ x i ∧ x i ≤ 255)
    (hl : len ≤ 1024) (hlc : len ≤ cap) (hcap : cap ≤ 9223372036854775807) (hq0 : q0 + 1 ≤ len) (hlg : Log w B lim 0 [] []) :
    Calls Yba.prog 9 #[.slice (some ⟨b, off, none⟩) len cap, .int .i64 ((q0 : Int) + 1), .func (.func 8) #[] #[.pointer (some ⟨B + 1, 0, none⟩), .pointer (some ⟨B + 2, 0, none⟩), .pointer (some ⟨B + 3, 0, none⟩), .pointer (some ⟨B, 0, none⟩)]] w fun e w' =>
      ∃ n, Ran x len q0 lim n ∧ e = .returned (.int .i64 ((posOf x q0 n : Int) + 1)) ∧ Below B w w' ∧ Log w' B lim n (typOf x q0 n) (conOf b off cap x q0 n) := by
  have HX : Hid (∀ i, 0 ≤ x i ∧ x i ≤ 255) := hx
  have HC : Hid (∀ i, i < len → w.cell? ⟨b, off + i, none⟩ = some (.int .u8 (x i))) := hc
  clear hx hc
  have hnf : ∀ w : World, (binOp .neq 37 (.func (.func 8) #[] #[.pointer (some ⟨B + 1, 0, none⟩), .pointer (some ⟨B + 2, 0, none⟩), .pointer (some ⟨B + 3, 0, none⟩), .pointer (some ⟨B, 0, none⟩)]) .nilFunc).run Yba.prog w = .ok (.bool true) w := fun w => by kernel_rfl
  go_enter Yba.func9, Yba.ntmps9
  go_wp2
  go_loopw [1] (fun p wr => ∃ k : Nat, p = .int .i64 ((posOf x q0 k : Int) + 1) ∧ Hid (∀ j, j < k → okAt x len (posOf x q0 j) = true) ∧ Hid (∀ j : Nat, 1 ≤ j → j < k + 1 → (j : Int) ≠ lim) ∧ Below B w wr ∧ Log wr B lim k (typOf x q0 k) (conOf b off cap x q0 k)) (fun p _ => len - (intOf p).toNat)
  case atStart => exact ⟨0, rfl, (fun j hj => absurd hj (by omega)), (fun j h1 h2 => absurd h1 (by omega)), Below.refl _ _, hlg⟩
  case round =>
    obtain ⟨k, rfl, HO, HG, hB, hL⟩ := hrel
    obtain ⟨hpl1, hpl2⟩ := pos_le (fun i => (HX.out i).1) hq0 k HO.out
    have hLt := hL.lt
    have hbr : b < wr.heap.size := by omega
    have hps : posOf x q0 (k + 1) = posOf x q0 k + 4 * (x (posOf x q0 k + 1)).toNat := rfl
    have HPS : Hid (posOf x q0 (k + 1) = posOf x q0 k + 4 * (x (posOf x q0 k + 1)).toNat) := hps
    clear hps
    obtain ⟨q, hqd⟩ : ∃ q, q = posOf x q0 k := ⟨_, rfl⟩
    rw [← hqd] at hpl1 hpl2 ⊢
    have HQ : Hid (q = posOf x q0 k) := hqd
    clear hqd
    have hxq := HX.out q
    have hxq1 := HX.out (q + 1)
    have c1 : wr.cell? ⟨b, off + q, none⟩ = some (.int .u8 (x q)) := (hB.cell (p := ⟨b, off + q, none⟩) hbB).trans (HC.out q (by omega))
    have c2 : q + 1 < len → wr.cell? ⟨b, off + (q + 1), none⟩ = some (.int .u8 (x (q + 1))) := fun h => (hB.cell (p := ⟨b, off + (q + 1), none⟩) hbB).trans (HC.out (q + 1) h)
    by_cases hok : okAt x len q = true
    · obtain ⟨h1, h2, h3, h4⟩ := okAt_iff.1 hok
      have c2' := c2 h2
      clear c2
      obtain ⟨y, hy⟩ : ∃ y, y = x (q + 1) := ⟨_, rfl⟩
      rw [← hy] at c2' hxq1 h3 h4
      have HY : Hid (y = x (q + 1)) := hy
      clear hy
      have e1 : (x q != 0) = true := by rw [bne_iff_ne]; exact h1
      have e2 : (y * 4 == 0) = false := by rw [beq_eq_false_iff_ne]; omega
      have e3 : (q : Int) + 1 < len := by omega
      have e4 : ¬ (len : Int) < (q : Int) + 1 + y * 4 := by omega
      have e5 : ¬ cap = q + 1 + 1 := by omega
      have e6 : (q : Int) + 1 + 1 ≤ (q : Int) + 1 + y * 4 - 1 := by omega
      have e7 : (q : Int) + 1 + y * 4 - 1 ≤ (cap : Int) := by omega
      have e8 : 0 ≤ (q : Int) + 1 + 1 := by omega
      have HL : Hid (Log wr B lim k (typOf x q0 k) (conOf b off cap x q0 k)) := hL
      clear hL
      go_wp2
      go_region
      go_wp2_with fail
      have hBa : Below wr.heap.size wr (wr.alloc (.cells #[.int .u8 (x q), .slice (some ⟨b, off + (q + 1 + 1), none⟩) (((q : Int) + 1 + y * 4).toNat - 1 - (q + 1 + 1)) (cap - (q + 1 + 1))] 36)).drew := ((Below.refl _ _).alloc (Nat.le_refl _) _).drew
      refine (yield_c B lim k (typOf x q0 k) (conOf b off cap x q0 k) _ _ _ _ _ (HL.out.grow hBa) (by omega)).mono ?_
      rintro e w5 ⟨rfl, hB5, hL5⟩
      have hB5' : Below B w w5 := (hB.trans (hBa.mono (by omega))).trans hB5
      have hpos1 : posOf x q0 (k + 1) = q + 4 * y.toNat := by rw [HPS.out, ← HQ.out, HY.out]
      have hL6 : Log w5 B lim (k + 1) (typOf x q0 (k + 1)) (conOf b off cap x q0 (k + 1)) := by
        rw [typ_succ, con_succ, ← HQ.out, contV, ← HY.out, show 4 * y.toNat - 2 = ((q : Int) + 1 + y * 4).toNat - 1 - (q + 1 + 1) by omega]
        exact hL5
      have hok' : ∀ j, j < k + 1 → okAt x len (posOf x q0 j) = true := by
        intro j hj
        rcases Nat.lt_or_ge j k with g | g
        · exact HO.out j g
        · rw [show j = k by omega, ← HQ.out]; exact hok
      have HO' : Hid (∀ j, j < k + 1 → okAt x len (posOf x q0 j) = true) := hok'
      have HP1 : Hid (posOf x q0 (k + 1) = q + 4 * y.toNat) := hpos1
      have HL6 : Hid (Log w5 B lim (k + 1) (typOf x q0 (k + 1)) (conOf b off cap x q0 (k + 1))) := hL6
      clear hok' hpos1 hL6 hL5 hB5 hBa HL
      by_cases hlm : (k : Int) + 1 = lim
      · have t1 : ((k : Int) + 1 != lim) = false := by simp [hlm]
        have HLM : Hid ((k : Int) + 1 = lim) := hlm
        clear hlm
        rw [t1]
        go_wp2
        go_ret
        refine ⟨k + 1, ⟨HO'.out, HG.out, .inr ⟨by have := HLM.out; omega, by omega⟩⟩, ?_, hB5', HL6.out⟩
        exact ret_int (by rw [HP1.out]; omega)
      · have t1 : ((k : Int) + 1 != lim) = true := by rw [bne_iff_ne]; exact hlm
        have hgo' : ∀ j : Nat, 1 ≤ j → j < k + 1 + 1 → (j : Int) ≠ lim := by
          intro j g1 g2
          rcases Nat.lt_or_ge j (k + 1) with g | g
          · exact HG.out j g1 g
          · intro e; apply hlm; omega
        have HG' : Hid (∀ j : Nat, 1 ≤ j → j < k + 1 + 1 → (j : Int) ≠ lim) := hgo'
        clear hlm hgo'
        rw [t1]
        go_wp2
        go_roundw
        case rel => exact ⟨k + 1, int_eq (by rw [HP1.out]; omega), HO', HG', hB5', HL6.out⟩
        case measure => simp [intOf]; omega
    · have hnok : okAt x len q = false := by simpa using hok
      have hran : Ran x len q0 lim k := ⟨HO.out, fun j g1 g2 => HG.out j g1 (by omega), .inl (by rw [← HQ.out]; exact hnok)⟩
      have HR : Hid (Ran x len q0 lim k) := hran
      clear hran
      by_cases h1 : x q = 0
      · have e1 : (x q != 0) = false := by simp [h1]
        clear h1 hnok hok
        go_wp2
        go_ret
        exact ⟨k, HR.out, by rw [← HQ.out]; rfl, hB, hL⟩
      · have e1 : (x q != 0) = true := by rw [bne_iff_ne]; exact h1
        by_cases h2 : q + 1 < len
        · have c2' := c2 h2
          clear c2
          have hnn : x (q + 1) = 0 ∨ len < q + 1 + 4 * (x (q + 1)).toNat := by
            by_cases h3 : x (q + 1) = 0
            · exact .inl h3
            · right
              rcases Nat.lt_or_ge len (q + 1 + 4 * (x (q + 1)).toNat) with g | g
              · exact g
              · exact absurd (okAt_iff.2 ⟨h1, h2, h3, g⟩) hok
          obtain ⟨y, hy⟩ : ∃ y, y = x (q + 1) := ⟨_, rfl⟩
          rw [← hy] at c2' hxq1 hnn
          clear hy hnok hok h1
          have e3 : (q : Int) + 1 < len := by omega
          by_cases h3 : y = 0
          · have e2 : (y * 4 == 0) = true := by rw [beq_iff_eq]; omega
            clear h3 hnn
            go_wp2
            go_ret
            exact ⟨k, HR.out, by rw [← HQ.out]; rfl, hB, hL⟩
          · have e2 : (y * 4 == 0) = false := by rw [beq_eq_false_iff_ne]; omega
            have e4 : (len : Int) < (q : Int) + 1 + y * 4 := by omega
            clear h3 hnn
            go_wp2
            go_ret
            exact ⟨k, HR.out, by rw [← HQ.out]; rfl, hB, hL⟩
        · have e3 : ¬ (q : Int) + 1 < len := by omega
          clear hnok hok h1 c2
          go_wp2
          go_ret
          exact ⟨k, HR.out, by rw [← HQ.out]; rfl, hB, hL⟩

/-- zzs0372beq of octets with themselves. -/
theorem beq_c (b o1 o2 l1 l2 c1 c2 : Nat) (x : Nat → Int) (w : World) (ho : o1 = o2) (hl : l1 = l2) (hl2 : l1 ≤ 1024) (hc : ∀ i, i < l1 → w.cell? ⟨b, o1 + i, none⟩ = some (.int .u8 (x i))) :
    Calls Yba.prog 10 #[.slice (some ⟨b, o1, none⟩) l1 c1, .slice (some ⟨b, o2, none⟩) l2 c2] w fun e w' => e = .returned (.bool true) ∧ ∃ n, w' = w.drewN n := by
  subst ho hl
  have HC : Hid (∀ i, i < l1 → w.cell? ⟨b, o1 + i, none⟩ = some (.int .u8 (x i))) := hc
  clear hc
  go_enter Yba.func10, Yba.ntmps10
  go_wp2
  go_loopw [5] (fun i wr => ∃ k : Nat, k ≤ l1 ∧ i = .int .i64 k ∧ ∃ n, wr = w.drewN n) (fun i _ => l1 - (intOf i).toNat)
  case atStart => exact ⟨0, by omega, rfl, 0, rfl⟩
  case round =>
    obtain ⟨k, hk, rfl, nq, rfl⟩ := hrel
    by_cases hlt : k < l1
    · have hck := HC.out k hlt
      have hlt' : (k : Int) < l1 := by omega
      go_wp2
      go_quiet (fail)
      go_wp2
      go_roundw
      case rel => exact ⟨k + 1, by omega, by go_num, _, rfl⟩
      case measure => simp [intOf]; omega
    · go_wp2
      go_ret
      exact ⟨rfl, _, rfl⟩
end Go.Proofs.Ybulkgri

/-
  walkExtensions with no yield, and with the yield that always says true.
-/
import Derived.Test.YbulkgriRows
import Derived.Test.YbulkgriPlain
import Derived.WalkKit
import Derived.WalkSpells
import Derived.WalkLawsBesides
import Derived.Deep.QuietTactic
import Derived.BigQuiet
import Derived.BigRegion
namespace Go.Proofs.Ybulkgri
open Go.RowKit

set_option maxHeartbeats 400000 in
theorem yes_c (t : Int) (a : Option Addr) (l c : Nat) (w : World) :
    Calls Yba.prog 11 #[.agg #[.int .u8 t, .slice a l c]] w fun e w' => e = .returned (.bool true) ∧ w' = w.alloc (.cells #[.int .u8 t, .slice a l c] 36) := by
  go_enter Yba.func11, Yba.ntmps11
  go_wp2
  go_ret
  exact ⟨rfl, rfl⟩

set_option maxHeartbeats 1000000 in
theorem walk_nil (b off len cap : Nat) (x : Nat → Int) (q0 : Nat) (w : World) (hb : b < w.heap.size) (hc : ∀ i, i < len → w.cell? ⟨b, off + i, none⟩ = some (.int .u8 (x i))) (hx : ∀ i, 0 ≤ x i ∧ x i ≤ 255)
    (hl : len ≤ 1024) (hlc : len ≤ cap) (hcap : cap ≤ 9223372036854775807) (hq0 : q0 + 1 ≤ len) :
    Calls Yba.prog 9 #[.slice (some ⟨b, off, none⟩) len cap, .int .i64 ((q0 : Int) + 1), .nilFunc] w fun e w' => e = .returned (.int .i64 ((stopAt x len q0 : Int) + 1)) ∧ Below w.heap.size w w' := by
  have HX : Hid (∀ i, 0 ≤ x i ∧ x i ≤ 255) := hx
  have HC : Hid (∀ i, i < len → w.cell? ⟨b, off + i, none⟩ = some (.int .u8 (x i))) := hc
  clear hx hc
  have hnf : ∀ w : World, (binOp .neq 37 .nilFunc .nilFunc).run Yba.prog w = .ok (.bool false) w := fun w => by kernel_rfl
  go_enter Yba.func9, Yba.ntmps9
  go_wp2
  go_loopw [1] (fun p wr => ∃ q : Nat, p = .int .i64 ((q : Int) + 1) ∧ q + 1 ≤ len ∧ Hid (stopAt x len q = stopAt x len q0) ∧ Below w.heap.size w wr) (fun p _ => len - (intOf p).toNat)
  case atStart => exact ⟨q0, rfl, hq0, rfl, Below.refl _ _⟩
  case round =>
    obtain ⟨q, rfl, hq, HS, hB⟩ := hrel
    have hbr : b < wr.heap.size := by have := hB.size; omega
    have hxq := HX.out q
    have hxq1 := HX.out (q + 1)
    have c1 : wr.cell? ⟨b, off + q, none⟩ = some (.int .u8 (x q)) := (hB.cell (p := ⟨b, off + q, none⟩) hb).trans (HC.out q (by omega))
    have c2 : q + 1 < len → wr.cell? ⟨b, off + (q + 1), none⟩ = some (.int .u8 (x (q + 1))) := fun h => (hB.cell (p := ⟨b, off + (q + 1), none⟩) hb).trans (HC.out (q + 1) h)
    by_cases hok : okAt x len q = true
    · obtain ⟨h1, h2, h3, h4⟩ := okAt_iff.1 hok
      have c2' := c2 h2
      clear c2
      obtain ⟨y, hy⟩ : ∃ y, y = x (q + 1) := ⟨_, rfl⟩
      rw [← hy] at c2' hxq1 h3 h4
      have HY : Hid (y = x (q + 1)) := hy
      clear hy
      have e1 : (x q != 0) = true := by rw [bne_iff_ne]; exact h1
      have e2 : (y * 4 == 0) = false := by rw [beq_eq_false_iff_ne]; omega
      have e3 : (q : Int) + 1 < len := by omega
      have e4 : ¬ (len : Int) < (q : Int) + 1 + y * 4 := by omega
      have e5 : ¬ cap = q + 1 + 1 := by omega
      have e6 : (q : Int) + 1 + 1 ≤ (q : Int) + 1 + y * 4 - 1 := by omega
      have e7 : (q : Int) + 1 + y * 4 - 1 ≤ (cap : Int) := by omega
      have e8 : 0 ≤ (q : Int) + 1 + 1 := by omega
      go_wp2
      go_region
      all_goals go_wp2
      all_goals go_roundw
      case rel => exact ⟨q + 4 * y.toNat, by go_num, by omega, (show _ = _ by rw [HY.out, stopAt_step (fun i => (HX.out i).1) hok]; exact HS.out), (hB.alloc hB.size _).drew⟩
      case measure => simp [intOf]; omega
    · have hnok : okAt x len q = false := by simpa using hok
      have hst : stopAt x len q0 = q := HS.out.symm.trans (stopAt_end hnok)
      have HST : Hid (stopAt x len q0 = q) := hst
      clear hst
      by_cases h1 : x q = 0
      · have e1 : (x q != 0) = false := by simp [h1]
        clear h1 hnok hok
        go_wp2
        go_ret
        exact ⟨by rw [HST.out]; rfl, hB⟩
      · have e1 : (x q != 0) = true := by rw [bne_iff_ne]; exact h1
        by_cases h2 : q + 1 < len
        · have c2' := c2 h2
          clear c2
          have hnn : x (q + 1) = 0 ∨ len < q + 1 + 4 * (x (q + 1)).toNat := by
            by_cases h3 : x (q + 1) = 0
            · exact .inl h3
            · right
              rcases Nat.lt_or_ge len (q + 1 + 4 * (x (q + 1)).toNat) with g | g
              · exact g
              · exact absurd (okAt_iff.2 ⟨h1, h2, h3, g⟩) hok
          obtain ⟨y, hy⟩ : ∃ y, y = x (q + 1) := ⟨_, rfl⟩
          rw [← hy] at c2' hxq1 hnn
          clear hy hnok hok h1
          have e3 : (q : Int) + 1 < len := by omega
          by_cases h3 : y = 0
          · have e2 : (y * 4 == 0) = true := by rw [beq_iff_eq]; omega
            clear h3 hnn
            go_wp2
            go_ret
            exact ⟨by rw [HST.out]; rfl, hB⟩
          · have e2 : (y * 4 == 0) = false := by rw [beq_eq_false_iff_ne]; omega
            have e4 : (len : Int) < (q : Int) + 1 + y * 4 := by omega
            clear h3 hnn
            go_wp2
            go_ret
            exact ⟨by rw [HST.out]; rfl, hB⟩
        · have e3 : ¬ (q : Int) + 1 < len := by omega
          clear hnok hok h1 c2
          go_wp2
          go_ret
          exact ⟨by rw [HST.out]; rfl, hB⟩
set_option maxHeartbeats 1000000 in
theorem walk_yes (b off len cap : Nat) (x : Nat → Int) (q0 : Nat) (w : World) (hb : b < w.heap.size) (hc : ∀ i, i < len → w.cell? ⟨b, off + i, none⟩ = some (.int .u8 (x i))) (hx : ∀ i, 0 ≤ x i ∧ x i ≤ 255)
    (hl : len ≤ 1024) (hlc : len ≤ cap) (hcap : cap ≤ 9223372036854775807) (hq0 : q0 + 1 ≤ len) :
    Calls Yba.prog 9 #[.slice (some ⟨b, off, none⟩) len cap, .int .i64 ((q0 : Int) + 1), .func (.func 11) #[] #[]] w fun e w' => e = .returned (.int .i64 ((stopAt x len q0 : Int) + 1)) ∧ Below w.heap.size w w' := by
  have HX : Hid (∀ i, 0 ≤ x i ∧ x i ≤ 255) := hx
  have HC : Hid (∀ i, i < len → w.cell? ⟨b, off + i, none⟩ = some (.int .u8 (x i))) := hc
  clear hx hc
  have hnf : ∀ w : World, (binOp .neq 37 (.func (.func 11) #[] #[]) .nilFunc).run Yba.prog w = .ok (.bool true) w := fun w => by kernel_rfl
  go_enter Yba.func9, Yba.ntmps9
  go_wp2
  go_loopw [1] (fun p wr => ∃ q : Nat, p = .int .i64 ((q : Int) + 1) ∧ q + 1 ≤ len ∧ Hid (stopAt x len q = stopAt x len q0) ∧ Below w.heap.size w wr) (fun p _ => len - (intOf p).toNat)
  case atStart => exact ⟨q0, rfl, hq0, rfl, Below.refl _ _⟩
  case round =>
    obtain ⟨q, rfl, hq, HS, hB⟩ := hrel
    have hbr : b < wr.heap.size := by have := hB.size; omega
    have hxq := HX.out q
    have hxq1 := HX.out (q + 1)
    have c1 : wr.cell? ⟨b, off + q, none⟩ = some (.int .u8 (x q)) := (hB.cell (p := ⟨b, off + q, none⟩) hb).trans (HC.out q (by omega))
    have c2 : q + 1 < len → wr.cell? ⟨b, off + (q + 1), none⟩ = some (.int .u8 (x (q + 1))) := fun h => (hB.cell (p := ⟨b, off + (q + 1), none⟩) hb).trans (HC.out (q + 1) h)
    by_cases hok : okAt x len q = true
    · obtain ⟨h1, h2, h3, h4⟩ := okAt_iff.1 hok
      have c2' := c2 h2
      clear c2
      obtain ⟨y, hy⟩ : ∃ y, y = x (q + 1) := ⟨_, rfl⟩
      rw [← hy] at c2' hxq1 h3 h4
      have HY : Hid (y = x (q + 1)) := hy
      clear hy
      have e1 : (x q != 0) = true := by rw [bne_iff_ne]; exact h1
      have e2 : (y * 4 == 0) = false := by rw [beq_eq_false_iff_ne]; omega
      have e3 : (q : Int) + 1 < len := by omega
      have e4 : ¬ (len : Int) < (q : Int) + 1 + y * 4 := by omega
      have e5 : ¬ cap = q + 1 + 1 := by omega
      have e6 : (q : Int) + 1 + 1 ≤ (q : Int) + 1 + y * 4 - 1 := by omega
      have e7 : (q : Int) + 1 + y * 4 - 1 ≤ (cap : Int) := by omega
      have e8 : 0 ≤ (q : Int) + 1 + 1 := by omega
      go_wp2
      go_region
      all_goals go_wp2_with (go_at_call 11; refine (yes_c _ _ _ _ _).mono ?_; rintro e w' ⟨rfl, rfl⟩)
      all_goals go_roundw
      case rel => exact ⟨q + 4 * y.toNat, by go_num, by omega, (show _ = _ by rw [HY.out, stopAt_step (fun i => (HX.out i).1) hok]; exact HS.out), ((hB.alloc hB.size _).alloc (by have := hB.size; simp; omega) _).drew⟩
      case measure => simp [intOf]; omega
    · have hnok : okAt x len q = false := by simpa using hok
      have hst : stopAt x len q0 = q := HS.out.symm.trans (stopAt_end hnok)
      have HST : Hid (stopAt x len q0 = q) := hst
      clear hst
      by_cases h1 : x q = 0
      · have e1 : (x q != 0) = false := by simp [h1]
        clear h1 hnok hok
        go_wp2
        go_ret
        exact ⟨by rw [HST.out]; rfl, hB⟩
      · have e1 : (x q != 0) = true := by rw [bne_iff_ne]; exact h1
        by_cases h2 : q + 1 < len
        · have c2' := c2 h2
          clear c2
          have hnn : x (q + 1) = 0 ∨ len < q + 1 + 4 * (x (q + 1)).toNat := by
            by_cases h3 : x (q + 1) = 0
            · exact .inl h3
            · right
              rcases Nat.lt_or_ge len (q + 1 + 4 * (x (q + 1)).toNat) with g | g
              · exact g
              · exact absurd (okAt_iff.2 ⟨h1, h2, h3, g⟩) hok
          obtain ⟨y, hy⟩ : ∃ y, y = x (q + 1) := ⟨_, rfl⟩
          rw [← hy] at c2' hxq1 hnn
          clear hy hnok hok h1
          have e3 : (q : Int) + 1 < len := by omega
          by_cases h3 : y = 0
          · have e2 : (y * 4 == 0) = true := by rw [beq_iff_eq]; omega
            clear h3 hnn
            go_wp2
            go_ret
            exact ⟨by rw [HST.out]; rfl, hB⟩
          · have e2 : (y * 4 == 0) = false := by rw [beq_eq_false_iff_ne]; omega
            have e4 : (len : Int) < (q : Int) + 1 + y * 4 := by omega
            clear h3 hnn
            go_wp2
            go_ret
            exact ⟨by rw [HST.out]; rfl, hB⟩
        · have e3 : ¬ (q : Int) + 1 < len := by omega
          clear hnok hok h1 c2
          go_wp2
          go_ret
          exact ⟨by rw [HST.out]; rfl, hB⟩
end Go.Proofs.Ybulkgri

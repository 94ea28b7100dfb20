/-
  capture.start, by its contract.
-/
import Derived.Test.YbulkgriMem
import Derived.Deep.CutRange
namespace Go.Proofs.Ybulkgri
open Go.RowKit

/-- The pieces in memory: piece j at cells 3 j, 3 j + 1, 3 j + 2 of block Pb. -/
structure Pieces (w : World) (Pb len : Nat) (off : Nat → Int) (hs : Nat → Value) (bs : Nat → List Int) : Prop where
  cell : ∀ j, j < len → w.cell? ⟨Pb, j * 3, none⟩ = some (.int .i64 (off j)) ∧ w.cell? ⟨Pb, j * 3 + 1, none⟩ = some (.int .i64 (bs j).length) ∧ w.cell? ⟨Pb, j * 3 + 2, none⟩ = some (hs j)
  row : ∀ j, j < len → RB w (hs j) (bs j)

theorem Pieces.keep {w w' : World} {Pb len : Nat} {off : Nat → Int} {hs : Nat → Value} {bs : Nat → List Int} (h : Pieces w Pb len off hs bs) (hb : Below w.heap.size w w') (hP : Pb < w.heap.size) : Pieces w' Pb len off hs bs :=
  ⟨fun j hj => ⟨(hb.cell hP).trans (h.cell j hj).1, (hb.cell hP).trans (h.cell j hj).2.1, (hb.cell hP).trans (h.cell j hj).2.2⟩, fun j hj => (h.row j hj).keep hb⟩

theorem int_eq' {k : IntKind} {a b : Int} (h : a = b) : Value.int k a = .int k b := by rw [h]
theorem bel_drewN {B : Nat} {w w' : World} (h : Below B w w') (n : Nat) : Below B w (w'.drewN n) := ⟨h.os, h.tape, h.output, h.size, h.block⟩

set_option maxHeartbeats 2000000 in
theorem start_c (Pb len : Nat) (off : Nat → Int) (hs : Nat → Value) (bs : Nat → List Int) (w : World) (hP : Pieces w Pb len off hs bs) (hPb : Pb < w.heap.size) (hl : len ≤ 1024) (hsum : sumL bs len ≤ 1048576) (hoff : ∀ j, j < len → -1 ≤ off j ∧ off j ≤ 1048577) :
    Calls Yba.prog 6 #[.slice (some ⟨Pb, 0, none⟩) len len] w fun e w' => ∃ K, Held bs off len K ∧ Below w.heap.size w w' ∧
      ((K = 1 ∧ e = .returned (hs 0)) ∨ (K ≠ 1 ∧ ∃ g c, e = .returned (.slice (some ⟨g, 0, none⟩) (sumL bs K) c) ∧ RB w' (.slice (some ⟨g, 0, none⟩) (sumL bs K) c) (catB bs K))) := by
  have HP : Hid (Pieces w Pb len off hs bs) := hP
  have HO : Hid (∀ j, j < len → -1 ≤ off j ∧ off j ≤ 1048577) := hoff
  clear hP hoff
  obtain ⟨i5, hi5, p0, p1, p2⟩ := u8_info
  go_enter Yba.func6, Yba.ntmps6
  go_wp2
  go_loopw [3, 4, 12] (fun n e i wr => ∃ k : Nat, k ≤ len ∧ i = .int .i64 k ∧ n = .int .i64 k ∧ e = .int .i64 (sumL bs k) ∧ Hid (∀ i, i < k → off i = sumL bs i) ∧ Below w.heap.size w wr) (fun _ _ i _ => len - (intOf i).toNat)
  case atStart => exact ⟨0, by omega, rfl, rfl, rfl, (fun i hi => absurd hi (by omega)), Below.refl _ _⟩
  case round =>
    obtain ⟨k, hk, rfl, rfl, rfl, HK, hBr⟩ := hrel
    rename World => wa
    have hPr : Pb < wa.heap.size := by have := hBr.size; omega
    have hsk := sumL_mono bs hk
    by_cases hkl : k < len
    · obtain ⟨d0, d1, d2⟩ := HP.out.cell k hkl
      have ho := HO.out k hkl
      obtain ⟨ha, hc, hv, _⟩ := HP.out.row k hkl
      rw [hv] at d2
      have r0 : wa.cell? ⟨Pb, k * 3, none⟩ = some (.int .i64 (off k)) := (hBr.cell (p := ⟨Pb, k * 3, none⟩) hPb).trans d0
      have r1 : wa.cell? ⟨Pb, k * 3 + 1, none⟩ = some (.int .i64 (bs k).length) := (hBr.cell (p := ⟨Pb, k * 3 + 1, none⟩) hPb).trans d1
      have r2 : wa.cell? ⟨Pb, k * 3 + 2, none⟩ = some (.slice ha (bs k).length hc) := (hBr.cell (p := ⟨Pb, k * 3 + 2, none⟩) hPb).trans d2
      have hkl' : (k : Int) < len := by omega
      have hs1 : sumL bs (k + 1) = sumL bs k + (bs k).length := rfl
      have hs2 := sumL_mono bs (show k + 1 ≤ len by omega)
      have HS1 : Hid (sumL bs (k + 1) = sumL bs k + (bs k).length) := hs1
      have hbk : (bs k).length ≤ 1048576 := by omega
      have HV : Hid (hs k = .slice ha (bs k).length hc) := hv
      clear hs1 d0 d1 d2 hv
      by_cases hgo : off k = sumL bs k
      · have t1 : (off k != (sumL bs k : Int)) = false := by simp [hgo]
        have HG : Hid (off k = sumL bs k) := hgo
        clear hgo
        go_wp2
        go_quiet (fail)
        go_wp2
        go_roundw
        case rel =>
          exact ⟨k + 1, by omega, by go_num, by go_num, int_eq' (by have := HS1.out; omega), (fun i hi => by
            rcases Nat.lt_or_ge i k with g | g
            · exact HK.out i g
            · rw [show i = k by omega]; exact HG.out), bel_drewN (hBr.alloc hBr.size _) _⟩
        case measure => simp [intOf]; omega
      · have t1 : (off k != (sumL bs k : Int)) = true := by rw [bne_iff_ne]; exact hgo
        have HH : Hid (Held bs off len k) := ⟨HK.out, hk, .inr hgo⟩
        have hbox : Below wa.heap.size wa (wa.alloc (.cells #[.int .i64 (off k), .int .i64 (bs k).length, .slice ha (bs k).length hc] 28)) := (Below.refl _ _).alloc (Nat.le_refl _) _
        clear hgo
        have hB0 : Below w.heap.size w _ := hBr.trans (hbox.mono hBr.size)
        go_upto_region 8 with fail
        clear hbox
        obtain ⟨w0, hw0⟩ : ∃ w0, w0 = wa.alloc (.cells #[.int .i64 (off k), .int .i64 (bs k).length, .slice ha (bs k).length hc] 28) := ⟨_, rfl⟩
        rw [← hw0] at hB0 ⊢
        clear hw0
        by_cases hk1 : k = 1
        · subst hk1
          have q0 := HP.out.cell 0 (by have := HH.out.le; omega)
          have q2 : w0.cell? ⟨Pb, 2, none⟩ = some (hs 0) := by
            rw [hB0.cell (p := ⟨Pb, 2, none⟩) hPb]; exact q0.2.2
          have hRB : RB w0 (hs 0) (bs 0) := (HP.out.row 0 (by have := HH.out.le; omega)).keep hB0
          have hl0 : 0 < len := by have := HH.out.le; omega
          have hl0' : (0 : Int) < len := by omega
          obtain ⟨ha0, hc0, hv0, _⟩ := id hRB
          rw [hv0] at q2
          have HV0 : Hid (hs 0 = .slice ha0 (bs 0).length hc0) := hv0
          clear hv0 q0 hRB
          go_wp2
          go_ret
          refine ⟨1, HH.out, hB0, .inl ⟨rfl, ?_⟩⟩
          rw [HV0.out]
          rfl
        · have t2 : ((k : Int) == 1) = false := by rw [beq_eq_false_iff_ne]; omega
          have hbd := sumL_mono bs HH.out.le
          go_wp2_with (at_make; refine wpList_make_own _ rfl _ _ 23 rfl w0.heap.size 5 i5 (.int .u8 0) 1 Yba.underlying23 hi5 p0 p1 .i64 .i64 _ (sumL bs k) rfl rfl rfl ?m1 ?m2 (Nat.le_refl _) ?_)
          case m1 => first | omega | (rw [p2]; omega)
          case m2 => unfold maxLen; omega
          intro w2 hown2 hg2
          have hB2 : Below w0.heap.size w0 w2 := (Below.refl _ _).grown hg2 (Nat.le_refl _) (fun k h => by cases h)
          clear hg2
          have s1 : (k : Int) ≤ len := by have := HH.out.le; omega
          have hkle : k ≤ len := HH.out.le
          go_wp2
          go_loopw [7, 40] (fun v i wq => ∃ j : Nat, j ≤ k ∧ i = .int .i64 j ∧ wq.ownsRow w0.heap.size 5 1 v (sumL bs j) ((catB bs j).map (Value.int .u8)) ∧ v ≠ .slice none 0 0 ∧ Below w0.heap.size w0 wq) (fun _ i _ => k - (intOf i).toNat)
          case atStart => exact ⟨0, by omega, rfl, hown2, by simp, hB2⟩
          case round =>
            obtain ⟨j, hj, rfl, hownj, hnn, hBq⟩ := hrel
            clear hown2 hB2
            have hBw := hB0.trans (hBq.mono hB0.size)
            by_cases hjk : j < k
            · have hjl : j < len := by omega
              obtain ⟨d0, d1, d2⟩ := HP.out.cell j hjl
              obtain ⟨ha2, hc2, hv2, _⟩ := HP.out.row j hjl
              have hRBj : RB wr (hs j) (bs j) := (HP.out.row j hjl).keep hBw
              rw [hv2] at d2 hRBj
              have r0 : wr.cell? ⟨Pb, j * 3, none⟩ = some (.int .i64 (off j)) := (hBw.cell (p := ⟨Pb, j * 3, none⟩) hPb).trans d0
              have r1 : wr.cell? ⟨Pb, j * 3 + 1, none⟩ = some (.int .i64 (bs j).length) := (hBw.cell (p := ⟨Pb, j * 3 + 1, none⟩) hPb).trans d1
              have r2 : wr.cell? ⟨Pb, j * 3 + 2, none⟩ = some (.slice ha2 (bs j).length hc2) := (hBw.cell (p := ⟨Pb, j * 3 + 2, none⟩) hPb).trans d2
              have hPq : Pb < wr.heap.size := by have := hBw.size; omega
              have hjk' : (j : Int) < k := by omega
              have hs3 : sumL bs (j + 1) = sumL bs j + (bs j).length := rfl
              have hs4 := sumL_mono bs (show j + 1 ≤ len by omega)
              have hbj : sumL bs j + (bs j).length ≤ 1048576 := by omega
              have hcat : (catB bs (j + 1)).map (Value.int .u8) = (catB bs j).map (Value.int .u8) ++ (bs j).map (Value.int .u8) := by simp [catB]
              have HCT : Hid ((catB bs (j + 1)).map (Value.int .u8) = (catB bs j).map (Value.int .u8) ++ (bs j).map (Value.int .u8)) := hcat
              have HS3 : Hid (sumL bs (j + 1) = sumL bs j + (bs j).length) := hs3
              clear hs3 hs4 hcat d0 d1 d2 hv2
              have hbox : Below wr.heap.size wr (wr.alloc (.cells #[.int .i64 (off j), .int .i64 (bs j).length, .slice ha2 (bs j).length hc2] 28)) := (Below.refl _ _).alloc (Nat.le_refl _) _
              go_wp2_with (at_builtin; refine wpList_append_bytes _ rfl (.tmp 44) (.tmp 46) rfl w0.heap.size _ (sumL bs j) _ rfl (hownj.alloc _) _ (bs j) rfl (hRBj.keep hbox) (by omega) (by have := hBq.size; simp; omega) ?_)
              intro v' w5 hown5 hg5 hiff
              have hB5 : Below w0.heap.size w0 w5 := (hBq.alloc hBq.size _).grown hg5 (by have := hBq.size; simp; omega) (fun k hk => (own_base hownj k hk).1)
              have hnn5 : v' ≠ .slice none 0 0 := by first | exact hiff | exact fun e => hnn (hiff.1 e).1
              have hown6 : w5.ownsRow w0.heap.size 5 1 v' (sumL bs (j + 1)) ((catB bs (j + 1)).map (Value.int .u8)) := by rw [HCT.out, HS3.out]; exact hown5
              have HO6 : Hid (w5.ownsRow w0.heap.size 5 1 v' (sumL bs (j + 1)) ((catB bs (j + 1)).map (Value.int .u8))) := hown6
              have HNN : Hid (v' ≠ .slice none 0 0) := hnn5
              clear hown5 hown6 hg5 hiff hnn5 hbox hownj hnn
              go_wp2
              go_roundw
              case rel => exact ⟨j + 1, by omega, by go_num, HO6.out, HNN.out, hB5⟩
              case measure => simp [intOf]; omega
            · have hjj : j = k := by omega
              subst hjj
              rcases hownj.2 with ⟨e, _⟩ | ⟨g, cap, cur, hv, hgb, hh, hnc, hcm, hcs, htk⟩
              · exact absurd e hnn
              · subst hv
                have hRB := (own_RB hownj).1
                have HRB : Hid (RB wr (.slice (some ⟨g, 0, none⟩) (sumL bs j) cap) (catB bs j)) := hRB
                clear hRB hh htk hownj hnn
                go_wp2
                go_ret
                exact ⟨j, HH.out, hBw, .inr ⟨hk1, g, cap, rfl, HRB.out⟩⟩
    · have HH : Hid (Held bs off len k) := ⟨HK.out, hk, .inl (by omega)⟩
      have hnk : ¬ (k : Int) < len := by omega
      have hB0 := hBr
      go_upto_region 8 with fail
      obtain ⟨w0, hw0⟩ : ∃ w0, w0 = wa := ⟨_, rfl⟩
      rw [← hw0] at hB0 ⊢
      clear hw0
      by_cases hk1 : k = 1
      · subst hk1
        have q0 := HP.out.cell 0 (by have := HH.out.le; omega)
        have q2 : w0.cell? ⟨Pb, 2, none⟩ = some (hs 0) := by
          rw [hB0.cell (p := ⟨Pb, 2, none⟩) hPb]; exact q0.2.2
        have hRB : RB w0 (hs 0) (bs 0) := (HP.out.row 0 (by have := HH.out.le; omega)).keep hB0
        have hl0 : 0 < len := by have := HH.out.le; omega
        have hl0' : (0 : Int) < len := by omega
        obtain ⟨ha0, hc0, hv0, _⟩ := id hRB
        rw [hv0] at q2
        have HV0 : Hid (hs 0 = .slice ha0 (bs 0).length hc0) := hv0
        clear hv0 q0 hRB
        go_wp2
        go_ret
        refine ⟨1, HH.out, hB0, .inl ⟨rfl, ?_⟩⟩
        rw [HV0.out]
        rfl
      · have t2 : ((k : Int) == 1) = false := by rw [beq_eq_false_iff_ne]; omega
        have hbd := sumL_mono bs HH.out.le
        go_wp2_with (at_make; refine wpList_make_own _ rfl _ _ 23 rfl w0.heap.size 5 i5 (.int .u8 0) 1 Yba.underlying23 hi5 p0 p1 .i64 .i64 _ (sumL bs k) rfl rfl rfl ?m1 ?m2 (Nat.le_refl _) ?_)
        case m1 => first | omega | (rw [p2]; omega)
        case m2 => unfold maxLen; omega
        intro w2 hown2 hg2
        have hB2 : Below w0.heap.size w0 w2 := (Below.refl _ _).grown hg2 (Nat.le_refl _) (fun k h => by cases h)
        clear hg2
        have s1 : (k : Int) ≤ len := by have := HH.out.le; omega
        have hkle : k ≤ len := HH.out.le
        go_wp2
        go_loopw [7, 40] (fun v i wq => ∃ j : Nat, j ≤ k ∧ i = .int .i64 j ∧ wq.ownsRow w0.heap.size 5 1 v (sumL bs j) ((catB bs j).map (Value.int .u8)) ∧ v ≠ .slice none 0 0 ∧ Below w0.heap.size w0 wq) (fun _ i _ => k - (intOf i).toNat)
        case atStart => exact ⟨0, by omega, rfl, hown2, by simp, hB2⟩
        case round =>
          obtain ⟨j, hj, rfl, hownj, hnn, hBq⟩ := hrel
          clear hown2 hB2
          have hBw := hB0.trans (hBq.mono hB0.size)
          by_cases hjk : j < k
          · have hjl : j < len := by omega
            obtain ⟨d0, d1, d2⟩ := HP.out.cell j hjl
            obtain ⟨ha2, hc2, hv2, _⟩ := HP.out.row j hjl
            have hRBj : RB wr (hs j) (bs j) := (HP.out.row j hjl).keep hBw
            rw [hv2] at d2 hRBj
            have r0 : wr.cell? ⟨Pb, j * 3, none⟩ = some (.int .i64 (off j)) := (hBw.cell (p := ⟨Pb, j * 3, none⟩) hPb).trans d0
            have r1 : wr.cell? ⟨Pb, j * 3 + 1, none⟩ = some (.int .i64 (bs j).length) := (hBw.cell (p := ⟨Pb, j * 3 + 1, none⟩) hPb).trans d1
            have r2 : wr.cell? ⟨Pb, j * 3 + 2, none⟩ = some (.slice ha2 (bs j).length hc2) := (hBw.cell (p := ⟨Pb, j * 3 + 2, none⟩) hPb).trans d2
            have hPq : Pb < wr.heap.size := by have := hBw.size; omega
            have hjk' : (j : Int) < k := by omega
            have hs3 : sumL bs (j + 1) = sumL bs j + (bs j).length := rfl
            have hs4 := sumL_mono bs (show j + 1 ≤ len by omega)
            have hbj : sumL bs j + (bs j).length ≤ 1048576 := by omega
            have hcat : (catB bs (j + 1)).map (Value.int .u8) = (catB bs j).map (Value.int .u8) ++ (bs j).map (Value.int .u8) := by simp [catB]
            have HCT : Hid ((catB bs (j + 1)).map (Value.int .u8) = (catB bs j).map (Value.int .u8) ++ (bs j).map (Value.int .u8)) := hcat
            have HS3 : Hid (sumL bs (j + 1) = sumL bs j + (bs j).length) := hs3
            clear hs3 hs4 hcat d0 d1 d2 hv2
            have hbox : Below wr.heap.size wr (wr.alloc (.cells #[.int .i64 (off j), .int .i64 (bs j).length, .slice ha2 (bs j).length hc2] 28)) := (Below.refl _ _).alloc (Nat.le_refl _) _
            go_wp2_with (at_builtin; refine wpList_append_bytes _ rfl (.tmp 44) (.tmp 46) rfl w0.heap.size _ (sumL bs j) _ rfl (hownj.alloc _) _ (bs j) rfl (hRBj.keep hbox) (by omega) (by have := hBq.size; simp; omega) ?_)
            intro v' w5 hown5 hg5 hiff
            have hB5 : Below w0.heap.size w0 w5 := (hBq.alloc hBq.size _).grown hg5 (by have := hBq.size; simp; omega) (fun k hk => (own_base hownj k hk).1)
            have hnn5 : v' ≠ .slice none 0 0 := by first | exact hiff | exact fun e => hnn (hiff.1 e).1
            have hown6 : w5.ownsRow w0.heap.size 5 1 v' (sumL bs (j + 1)) ((catB bs (j + 1)).map (Value.int .u8)) := by rw [HCT.out, HS3.out]; exact hown5
            have HO6 : Hid (w5.ownsRow w0.heap.size 5 1 v' (sumL bs (j + 1)) ((catB bs (j + 1)).map (Value.int .u8))) := hown6
            have HNN : Hid (v' ≠ .slice none 0 0) := hnn5
            clear hown5 hown6 hg5 hiff hnn5 hbox hownj hnn
            go_wp2
            go_roundw
            case rel => exact ⟨j + 1, by omega, by go_num, HO6.out, HNN.out, hB5⟩
            case measure => simp [intOf]; omega
          · have hjj : j = k := by omega
            subst hjj
            rcases hownj.2 with ⟨e, _⟩ | ⟨g, cap, cur, hv, hgb, hh, hnc, hcm, hcs, htk⟩
            · exact absurd e hnn
            · subst hv
              have hRB := (own_RB hownj).1
              have HRB : Hid (RB wr (.slice (some ⟨g, 0, none⟩) (sumL bs j) cap) (catB bs j)) := hRB
              clear hRB hh htk hownj hnn
              go_wp2
              go_ret
              exact ⟨j, HH.out, hBw, .inr ⟨hk1, g, cap, rfl, HRB.out⟩⟩
end Go.Proofs.Ybulkgri

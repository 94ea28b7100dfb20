/-
  THE WALK OF LawS0372AStart.
-/
import Derived.Test.YbulkgriPS
import Derived.Lib.Builder
namespace Go.Proofs.Ybulkgri
open Go.RowKit

/-- What came in: piece i has Skip 'sk i' and Held 'hv i', which reads 'bs i'. -/
def InPs (w : World) (a0 : Option Addr) (len : Nat) (sk : Nat → Int) (hv : Nat → Value) (bs : Nat → List Int) : Prop :=
  ∀ i, i < len → (∃ pb po, a0 = some ⟨pb, po, none⟩ ∧ pb < w.heap.size ∧ w.cell? ⟨pb, po + i * 2, none⟩ = some (.int .u8 (sk i)) ∧ w.cell? ⟨pb, po + i * 2 + 1, none⟩ = some (hv i)) ∧ RB w (hv i) (bs i) ∧ 0 ≤ sk i ∧ sk i ≤ 255 ∧ (bs i).length ≤ 140737488355328

theorem empty_own (w : World) : (w.alloc (.cells #[] 5)).ownsRow w.heap.size 5 1 (.slice (some ⟨w.heap.size, 0, none⟩) 0 0) 0 [] :=
  ⟨rfl, .inr ⟨w.heap.size, 0, #[], rfl, Nat.le_refl _, by show (w.heap.push _)[w.heap.size]? = _; simp, Nat.le_refl _, by unfold maxLen; omega, rfl, rfl⟩⟩

theorem offOf_bd (sk : Nat → Int) (bs : Nat → List Int) {len : Nat} (h : sumL bs len ≤ 1048576) {i : Nat} (hi : i < len) : -1 ≤ offOf sk bs i ∧ offOf sk bs i ≤ 1048577 := by
  have := sumL_mono bs (show i ≤ len by omega)
  unfold offOf
  split
  · omega
  · split <;> omega

set_option maxHeartbeats 1000000 in
theorem astart_far (a0 : Option Addr) (len0 cap0 : Nat) (w : World) (hl : (1024 : Int) < len0) :
    Calls Yba.prog 3 #[.slice a0 len0 cap0] w fun e w' => e = .returned (.bool true) ∧ Below w.heap.size w w' := by
  go_enter Yba.func3, Yba.ntmps3
  go_wp2
  go_ret
  exact ⟨rfl, Below.refl _ _⟩

set_option maxRecDepth 100000 in
set_option maxHeartbeats 4000000 in
theorem astart_near (a0 : Option Addr) (len cap0 : Nat) (sk : Nat → Int) (hv : Nat → Value) (bs : Nat → List Int) (w : World) (hin : InPs w a0 len sk hv bs) (hl : len ≤ 1024) :
    Calls Yba.prog 3 #[.slice a0 len cap0] w fun e w' => e = .returned (.bool true) ∧ Below w.heap.size w w' := by
  have HI : Hid (InPs w a0 len sk hv bs) := hin
  clear hin
  obtain ⟨i28, hi28, p0, p1, p2⟩ := info_parts Yba.info28
  go_enter Yba.func3, Yba.ntmps3
  go_wp2
  go_loopw [3, 23] (fun t i wr => ∃ k : Nat, k ≤ len ∧ i = .int .i64 k ∧ t = .int .i64 (sumL bs k) ∧ sumL bs k ≤ 1048576 ∧ Below w.heap.size w wr) (fun _ i _ => len - (intOf i).toNat)
  case atStart => exact ⟨0, by omega, rfl, rfl, by simp [sumL], Below.refl _ _⟩
  case round =>
    obtain ⟨k, hk, rfl, rfl, hsk, hBr⟩ := hrel
    rename World => wa
    by_cases hkl : k < len
    · obtain ⟨⟨pb, po, rfl, hpb, d0, d1⟩, hRB, _, _, hbl⟩ := HI.out k hkl
      obtain ⟨ha, hc, hv1, _⟩ := hRB
      rw [hv1] at d1
      have r0 : wa.cell? ⟨pb, po + k * 2, none⟩ = some (.int .u8 (sk k)) := (hBr.cell (p := ⟨pb, po + k * 2, none⟩) hpb).trans d0
      have r1 : wa.cell? ⟨pb, po + k * 2 + 1, none⟩ = some (.slice ha (bs k).length hc) := (hBr.cell (p := ⟨pb, po + k * 2 + 1, none⟩) hpb).trans d1
      have hpa : pb < wa.heap.size := by have := hBr.size; omega
      have hkl' : (k : Int) < len := by omega
      have HS : Hid (sumL bs (k + 1) = sumL bs k + (bs k).length) := rfl
      clear hv1 d0 d1
      by_cases hbig : (1048576 : Int) < (sumL bs k : Int) + (bs k).length
      · go_wp2
        go_ret
        exact ⟨rfl, hBr.alloc hBr.size _⟩
      · go_wp2
        go_roundw
        case rel => exact ⟨k + 1, by omega, by go_num, int_eq' (by have := HS.out; omega), by have := HS.out; omega, hBr.alloc hBr.size _⟩
        case measure => simp [intOf]; omega
    · have hkk : k = len := by omega
      subst hkk
      go_wp2_with (at_make; refine wpList_make_full _ rfl _ _ 26 rfl wa.heap.size 28 i28 (.agg #[.int .i64 0, .int .i64 0, .slice none 0 0]) 3 Yba.underlying26 hi28 p0 p1 .i64 .i64 _ _ k rfl rfl rfl rfl ?c1 ?c2 (Nat.le_refl _) ?_)
      case c1 => first | omega | (rw [p2]; omega)
      case c2 => unfold maxLen; omega
      intro w1 hown1 hg1
      have hB1 : Below wa.heap.size wa w1 := (Below.refl _ _).grown hg1 (Nat.le_refl _) (fun k h => by cases h)
      have hps := PS.start (offOf sk bs) (fun _ => .slice none 0 0) bs hown1
      obtain ⟨Pb, hPb⟩ : ∃ Pb, Pb = wa.heap.size := ⟨_, rfl⟩
      rw [← hPb] at hps
      rw [← hPb]
      have hB1' : Below w.heap.size w w1 := hBr.trans (hB1.mono hBr.size)
      have hPw : w.heap.size ≤ Pb := by have := hBr.size; omega
      have HPS1 : Hid (PS w1 Pb k 0 (offOf sk bs) (fun _ => .slice none 0 0) bs) := hps
      clear hown1 hg1 hB1 hps hPb hBr
      go_wp2
      go_loopw [7, 40] (fun r i wr => ∃ (j : Nat) (hs : Nat → Value), j ≤ k ∧ i = .int .i64 j ∧ r = .int .i64 (sumL bs j) ∧ Hid (PS wr Pb k j (offOf sk bs) hs bs) ∧ Below w.heap.size w wr) (fun _ i _ => k - (intOf i).toNat)
      case atStart => exact ⟨0, _, by omega, rfl, rfl, HPS1, hB1'⟩
      case round =>
        obtain ⟨j, hs, hj, rfl, rfl, HP, hBr⟩ := hrel
        clear HPS1 hB1'
        rename World => wb
        have hPl := HP.out.lt
        have hBr' := hBr
        by_cases hjl : j < k
        · obtain ⟨⟨pb, po, rfl, hpb, d0, d1⟩, hRB, hsk0, hsk1, _⟩ := HI.out j hjl
          obtain ⟨ha, hc, hv1, _⟩ := id hRB
          rw [hv1] at d1 hRB
          have r0 : wb.cell? ⟨pb, po + j * 2, none⟩ = some (.int .u8 (sk j)) := (hBr.cell (p := ⟨pb, po + j * 2, none⟩) hpb).trans d0
          have r1 : wb.cell? ⟨pb, po + j * 2 + 1, none⟩ = some (.slice ha (bs j).length hc) := (hBr.cell (p := ⟨pb, po + j * 2 + 1, none⟩) hpb).trans d1
          have hpa : pb < wb.heap.size := by have := hBr.size; omega
          have hjl' : (j : Int) < k := by omega
          have hs1 : sumL bs (j + 1) = sumL bs j + (bs j).length := rfl
          have hs2 := sumL_mono bs (show j + 1 ≤ k by omega)
          have HS : Hid (sumL bs (j + 1) = sumL bs j + (bs j).length) := hs1
          have hbj : sumL bs j + (bs j).length ≤ 1048576 := by omega
          clear hs1 hs2 d0 d1 hv1
          have hbox : Below wb.heap.size wb (wb.alloc (.cells #[.int .u8 (sk j), .slice ha (bs j).length hc] 25)) := (Below.refl _ _).alloc (Nat.le_refl _) _
          have hRB2 := (hRB.keep hBr').keep hbox
          go_wp2_with (at_builtin; refine wpList_append_bytes _ rfl (.const (.slice none 0 0)) (.tmp 46) rfl (wb.heap.size + 1) _ 0 [] rfl (World.ownsRow_nil _ _ _ _) _ (bs j) rfl hRB2 (by omega) (by simp) ?_)
          intro v' w5 hown5 hg5 _
          have hB5 : Below (wb.heap.size + 1) (wb.alloc (.cells #[.int .u8 (sk j), .slice ha (bs j).length hc] 25)) w5 := (Below.refl _ _).grown hg5 (by simp) (fun k h => by simp [Value.ownBlock] at h)
          have hB5b : Below wb.heap.size wb w5 := hbox.trans (hB5.mono (by omega))
          have hP5 := HP.out.keep hB5b
          have hRg := own_RBg (P := Pb) hown5 (by omega)
          have hB5w : Below w.heap.size w w5 := hBr.trans (hB5b.mono hBr.size)
          have q0 : w5.cell? ⟨wb.heap.size, 0, none⟩ = some (.int .u8 (sk j)) := by
            rw [hB5.cell (p := ⟨wb.heap.size, 0, none⟩) (by simp)]
            simp
          obtain ⟨va, vc, hv', _⟩ := id hRg
          rw [hv'] at hRg
          rw [hv']
          obtain ⟨x0, hx0⟩ := Option.isSome_iff_exists.1 (hP5.all (j * 3) (by omega))
          obtain ⟨x1, hx1⟩ := Option.isSome_iff_exists.1 (hP5.all (j * 3 + 1) (by omega))
          obtain ⟨x2, hx2⟩ := Option.isSome_iff_exists.1 (hP5.all (j * 3 + 2) (by omega))
          have f0 := hP5.fz (j * 3)
          have f1 := hP5.fz (j * 3 + 1)
          have f2 := hP5.fz (j * 3 + 2)
          have hst := hP5.step hjl hRg
          have hP5l : Pb < w5.heap.size := hP5.lt
          clear hv' hown5 hg5 hB5 hB5b hP5 hRg hbox hRB hRB2 r0 r1
          by_cases m1 : sk j % 4 = 1
          · have e1 : (sk j % 4 == 1) = true := by rw [beq_iff_eq]; exact m1
            rw [show offOf sk bs j = (sumL bs j : Int) + 1 by rw [offOf, if_pos m1]] at hst
            have HST := (show Hid _ from hst)
            clear hst m1
            go_wp2
            go_roundw
            case rel => exact ⟨j + 1, _, by omega, by go_num, int_eq' (by have := HS.out; omega), HST.out, ((hB5w.setCell hPw _).setCell hPw _).setCell hPw _⟩
            case measure => simp [intOf]; omega
          · have e1 : (sk j % 4 == 1) = false := by rw [beq_eq_false_iff_ne]; exact m1
            by_cases m2 : sk j % 4 = 2
            · have e2 : (sk j % 4 == 2) = true := by rw [beq_iff_eq]; exact m2
              rw [show offOf sk bs j = (sumL bs j : Int) - 1 by rw [offOf, if_neg m1, if_pos m2]] at hst
              have HST := (show Hid _ from hst)
              clear hst m1 m2
              go_wp2
              go_roundw
              case rel => exact ⟨j + 1, _, by omega, by go_num, int_eq' (by have := HS.out; omega), HST.out, ((hB5w.setCell hPw _).setCell hPw _).setCell hPw _⟩
              case measure => simp [intOf]; omega
            · have e2 : (sk j % 4 == 2) = false := by rw [beq_eq_false_iff_ne]; exact m2
              rw [show offOf sk bs j = (sumL bs j : Int) by rw [offOf, if_neg m1, if_neg m2]] at hst
              have HST := (show Hid _ from hst)
              clear hst m1 m2
              go_wp2
              go_roundw
              case rel => exact ⟨j + 1, _, by omega, by go_num, int_eq' (by have := HS.out; omega), HST.out, ((hB5w.setCell hPw _).setCell hPw _).setCell hPw _⟩
              case measure => simp [intOf]; omega
        · have hjj : j = k := by omega
          subst hjj
          -- LOOP 3
          go_wp2
          go_loopw [12, 13, 14, 76] (fun cu kk v i wq => ∃ m : Nat, m ≤ j ∧ i = .int .i64 m ∧ kk = .int .i64 m ∧ cu = .int .i64 (sumL bs m) ∧ Hid (∀ i, i < m → offOf sk bs i = sumL bs i) ∧ wq.ownsRow wb.heap.size 5 1 v (sumL bs m) ((catB bs m).map (Value.int .u8)) ∧ Below wb.heap.size wb wq) (fun _ _ _ i _ => j - (intOf i).toNat)
          case atStart => exact ⟨0, by omega, rfl, rfl, rfl, (fun i hi => absurd hi (by omega)), empty_own wb, (Below.refl _ _).alloc (Nat.le_refl _) _⟩
          case round =>
            obtain ⟨m, hm, rfl, rfl, rfl, HK, hown, hBq⟩ := hrel
            rename World => wq
            have hPq := HP.out.keep hBq
            have hsm := sumL_mono bs hm
            have hPql := hPq.lt
            by_cases hmj : m < j
            · obtain ⟨d0, d1, d2⟩ := hPq.cell m hmj
              have hRBm := (hPq.row m hmj).rb
              obtain ⟨va, vc, hvm, _⟩ := id hRBm
              rw [hvm] at d2 hRBm
              have ho := offOf_bd sk bs hsk hmj
              have hmj' : (m : Int) < j := by omega
              have hs1 : sumL bs (m + 1) = sumL bs m + (bs m).length := rfl
              have hs2 := sumL_mono bs (show m + 1 ≤ j by omega)
              have hbm : sumL bs m + (bs m).length ≤ 1048576 := by omega
              have HS := (show Hid (sumL bs (m + 1) = sumL bs m + (bs m).length) from hs1)
              have HCT : Hid ((catB bs (m + 1)).map (Value.int .u8) = (catB bs m).map (Value.int .u8) ++ (bs m).map (Value.int .u8)) := (by simp [catB] : (catB bs (m + 1)).map (Value.int .u8) = (catB bs m).map (Value.int .u8) ++ (bs m).map (Value.int .u8))
              clear hs1 hs2 hvm hPq
              have hbox : Below wq.heap.size wq (wq.alloc (.cells #[.int .i64 (offOf sk bs m), .int .i64 (bs m).length, .slice va (bs m).length vc] 28)) := (Below.refl _ _).alloc (Nat.le_refl _) _
              by_cases hgo : offOf sk bs m = sumL bs m
              · have t1 : (offOf sk bs m != (sumL bs m : Int)) = false := by simp [hgo]
                have HG := (show Hid _ from hgo)
                clear hgo
                go_wp2_with (at_builtin; refine wpList_append_bytes _ rfl (.tmp 84) (.tmp 86) rfl wb.heap.size _ (sumL bs m) _ rfl (hown.alloc _) _ (bs m) rfl (hRBm.keep hbox) (by omega) (by have := hBq.size; simp; omega) ?_)
                intro v' w5 hown5 hg5 _
                have hB5 : Below wb.heap.size wb w5 := (hBq.alloc hBq.size _).grown hg5 (by have := hBq.size; simp; omega) (fun k hk => (own_base hown k hk).1)
                have hcx : w5.cell? ⟨wq.heap.size, 2, none⟩ = some (.slice va (bs m).length vc) := by
                  have hbk : w5.heap[wq.heap.size]? = some (.cells #[.int .i64 (offOf sk bs m), .int .i64 (bs m).length, .slice va (bs m).length vc] 28 (0, 0)) := by
                    rw [hg5.block wq.heap.size (by simp) (fun e => by
                      obtain ⟨_, cc, hk2⟩ := own_base hown _ e.symm
                      have := heap_lt hk2
                      omega)]
                    show (wq.heap.push _)[wq.heap.size]? = _
                    simp
                  rw [cell_of hbk]; rfl
                have hown6 : w5.ownsRow wb.heap.size 5 1 v' (sumL bs (m + 1)) ((catB bs (m + 1)).map (Value.int .u8)) := by rw [HCT.out, HS.out]; exact hown5
                have HO6 := (show Hid _ from hown6)
                clear hown5 hown6 hg5 hbox hown hRBm d0 d1 d2
                go_wp2
                go_roundw
                case rel =>
                  exact ⟨m + 1, by omega, by go_num, by go_num, int_eq' (by have := HS.out; omega), (fun i hi => by
                    rcases Nat.lt_or_ge i m with g | g
                    · exact HK.out i g
                    · rw [show i = m by omega]; exact HG.out), HO6.out, hB5⟩
                case measure => simp [intOf]; omega
              · have t1 : (offOf sk bs m != (sumL bs m : Int)) = true := by rw [bne_iff_ne]; exact hgo
                have HH : Hid (Held bs (offOf sk bs) j m) := ⟨HK.out, hm, .inr hgo⟩
                have hB0 : Below wb.heap.size wb _ := hBq.trans (hbox.mono hBq.size)
                have hown0 := hown.alloc (.cells #[.int .i64 (offOf sk bs m), .int .i64 (bs m).length, .slice va (bs m).length vc] 28)
                clear hgo hbox
                go_upto_region 36 with fail
                obtain ⟨w0, hw0⟩ : ∃ w0, w0 = wq.alloc (.cells #[.int .i64 (offOf sk bs m), .int .i64 (bs m).length, .slice va (bs m).length vc] 28) := ⟨_, rfl⟩
                rw [← hw0] at hB0 hown0 ⊢
                clear hw0 hown hBq d0 d1 d2 hRBm
                have hPc := HP.out.keep hB0
                have hPp := hPc.pieces
                go_wp2_with fail
                refine (start_c Pb j (offOf sk bs) hs bs w0 hPp hPc.lt hl hsk (fun i hi => offOf_bd sk bs hsk hi)).mono ?_
                rintro e w9 ⟨K, hK, hB9, hcase⟩
                obtain rfl := hK.one HH.out
                have hRBw := (own_RB hown0).1.keep hB9
                have hBf : Below w.heap.size w w9 := (hBr.trans (hB0.mono hBr.size)).trans (hB9.mono (by have := hBr.size; have := hB0.size; omega))
                obtain ⟨ua, ul, uc, hu⟩ := own_slice hown0
                rw [hu] at hRBw ⊢
                clear hu
                rcases hcase with ⟨hK1, rfl⟩ | ⟨hK1, g, c, rfl, hRBg⟩
                · subst hK1
                  have hj1 : 0 < j := by have := HH.out.le; omega
                  have hP9 := (hPc.keep hB9)
                  have hc2 := (hP9.cell 0 hj1).2.2
                  have hRB0 := (hP9.row 0 hj1).rb
                  obtain ⟨va, vc, hv0, hcs⟩ := id hRB0
                  rw [hv0] at hc2 hRB0 ⊢
                  have hc2' : w9.cell? ⟨Pb, 2, none⟩ = some (.slice va (bs 0).length vc) := by simpa using hc2
                  have hcat : catB bs 1 = bs 0 := by simp [catB]
                  rw [hcat] at hRBw
                  have hsum1 : sumL bs 1 = (bs 0).length := by simp [sumL]
                  have t1 : (((bs 0).length : Int) != (sumL bs 1 : Int)) = false := by rw [hsum1]; simp
                  have hj1' : (0 : Int) < j := by omega
                  have HRW := (show Hid _ from hRBw)
                  have HR0 := (show Hid _ from hRB0)
                  have HCS := (show Hid _ from hcs)
                  clear hcat hsum1 hc2 hv0 hP9 hPp hPc hRBw hRB0 hcs
                  rcases Nat.eq_zero_or_pos (bs 0).length with hz | hpos
                  · have t2 : decide (0 < (bs 0).length) = false := decide_eq_false (by omega)
                    have t3 : ¬ (0 : Int) < ((bs 0).length : Int) := by omega
                    have HZ := (show Hid _ from hz)
                    clear hz
                    go_wp2_with (go_at_call 7; refine (equal_c _ _ (bs 0) _ HR0.out HRW.out).mono ?_; rintro e w' ⟨rfl, rfl⟩)
                    go_quiet (fail)
                    go_wp2
                    go_ret
                    exact ⟨rfl, hBf.os, hBf.tape, hBf.output, hBf.size, hBf.block⟩
                  · obtain ⟨b0, o0, rfl, _⟩ := HCS.out hpos
                    have t2 : decide (0 < (bs 0).length) = true := decide_eq_true (by omega)
                    have t3 : (0 : Int) < ((bs 0).length : Int) := by omega
                    obtain ⟨i5, hi5, _⟩ := u8_info
                    have hne := fun (w : World) => Lib.run_neq_ptr_same (P := Yba.prog) w (tp := 31) (te := 5) (j := i5) ⟨b0, o0, none⟩ Yba.underlying31 hi5
                    go_wp2_with (go_at_call 7; refine (equal_c _ _ (bs 0) _ HR0.out HRW.out).mono ?_; rintro e w' ⟨rfl, rfl⟩)
                    go_quiet (fail)
                    go_wp2
                    go_ret
                    exact ⟨rfl, hBf.os, hBf.tape, hBf.output, hBf.size, hBf.block⟩
                · have t1 : ((K : Int) == 1) = false := by rw [beq_eq_false_iff_ne]; omega
                  have HRW := (show Hid _ from hRBw)
                  have HRG := (show Hid _ from hRBg)
                  have heq := fun (w : World) => Lib.run_eql_slice_nil (P := Yba.prog) w 23 5 (some ⟨g, 0, none⟩) (sumL bs K) c 0 0 Yba.underlying23
                  clear hRBw hRBg hPp hPc
                  go_wp2_with (go_at_call 7; refine (equal_c _ _ (catB bs K) _ HRG.out HRW.out).mono ?_; rintro e w' ⟨rfl, rfl⟩)
                  go_ret
                  exact ⟨rfl, hBf⟩
            · have HH : Hid (Held bs (offOf sk bs) j m) := ⟨HK.out, hm, .inl (by omega)⟩
              have hnk : ¬ (m : Int) < j := by omega
              have hB0 := hBq
              have hown0 := hown
              go_upto_region 36 with fail
              obtain ⟨w0, hw0⟩ : ∃ w0, w0 = wq := ⟨_, rfl⟩
              rw [← hw0] at hB0 hown0 ⊢
              clear hw0 hown hBq hPq
              have hPc := HP.out.keep hB0
              have hPp := hPc.pieces
              go_wp2_with fail
              refine (start_c Pb j (offOf sk bs) hs bs w0 hPp hPc.lt hl hsk (fun i hi => offOf_bd sk bs hsk hi)).mono ?_
              rintro e w9 ⟨K, hK, hB9, hcase⟩
              obtain rfl := hK.one HH.out
              have hRBw := (own_RB hown0).1.keep hB9
              have hBf : Below w.heap.size w w9 := (hBr.trans (hB0.mono hBr.size)).trans (hB9.mono (by have := hBr.size; have := hB0.size; omega))
              obtain ⟨ua, ul, uc, hu⟩ := own_slice hown0
              rw [hu] at hRBw ⊢
              clear hu
              rcases hcase with ⟨hK1, rfl⟩ | ⟨hK1, g, c, rfl, hRBg⟩
              · subst hK1
                have hj1 : 0 < j := by have := HH.out.le; omega
                have hP9 := (hPc.keep hB9)
                have hc2 := (hP9.cell 0 hj1).2.2
                have hRB0 := (hP9.row 0 hj1).rb
                obtain ⟨va, vc, hv0, hcs⟩ := id hRB0
                rw [hv0] at hc2 hRB0 ⊢
                have hc2' : w9.cell? ⟨Pb, 2, none⟩ = some (.slice va (bs 0).length vc) := by simpa using hc2
                have hcat : catB bs 1 = bs 0 := by simp [catB]
                rw [hcat] at hRBw
                have hsum1 : sumL bs 1 = (bs 0).length := by simp [sumL]
                have t1 : (((bs 0).length : Int) != (sumL bs 1 : Int)) = false := by rw [hsum1]; simp
                have hj1' : (0 : Int) < j := by omega
                have HRW := (show Hid _ from hRBw)
                have HR0 := (show Hid _ from hRB0)
                have HCS := (show Hid _ from hcs)
                clear hcat hsum1 hc2 hv0 hP9 hPp hPc hRBw hRB0 hcs
                rcases Nat.eq_zero_or_pos (bs 0).length with hz | hpos
                · have t2 : decide (0 < (bs 0).length) = false := decide_eq_false (by omega)
                  have t3 : ¬ (0 : Int) < ((bs 0).length : Int) := by omega
                  have HZ := (show Hid _ from hz)
                  clear hz
                  go_wp2_with (go_at_call 7; refine (equal_c _ _ (bs 0) _ HR0.out HRW.out).mono ?_; rintro e w' ⟨rfl, rfl⟩)
                  go_quiet (fail)
                  go_wp2
                  go_ret
                  exact ⟨rfl, hBf.os, hBf.tape, hBf.output, hBf.size, hBf.block⟩
                · obtain ⟨b0, o0, rfl, _⟩ := HCS.out hpos
                  have t2 : decide (0 < (bs 0).length) = true := decide_eq_true (by omega)
                  have t3 : (0 : Int) < ((bs 0).length : Int) := by omega
                  obtain ⟨i5, hi5, _⟩ := u8_info
                  have hne := fun (w : World) => Lib.run_neq_ptr_same (P := Yba.prog) w (tp := 31) (te := 5) (j := i5) ⟨b0, o0, none⟩ Yba.underlying31 hi5
                  go_wp2_with (go_at_call 7; refine (equal_c _ _ (bs 0) _ HR0.out HRW.out).mono ?_; rintro e w' ⟨rfl, rfl⟩)
                  go_quiet (fail)
                  go_wp2
                  go_ret
                  exact ⟨rfl, hBf.os, hBf.tape, hBf.output, hBf.size, hBf.block⟩
              · have t1 : ((K : Int) == 1) = false := by rw [beq_eq_false_iff_ne]; omega
                have HRW := (show Hid _ from hRBw)
                have HRG := (show Hid _ from hRBg)
                have heq := fun (w : World) => Lib.run_eql_slice_nil (P := Yba.prog) w 23 5 (some ⟨g, 0, none⟩) (sumL bs K) c 0 0 Yba.underlying23
                clear hRBw hRBg hPp hPc
                go_wp2_with (go_at_call 7; refine (equal_c _ _ (catB bs K) _ HRG.out HRW.out).mono ?_; rintro e w' ⟨rfl, rfl⟩)
                go_ret
                exact ⟨rfl, hBf⟩
end Go.Proofs.Ybulkgri

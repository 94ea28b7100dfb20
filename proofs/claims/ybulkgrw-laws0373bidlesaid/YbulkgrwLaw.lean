/-
  LawS0373BIdle, walked: the set-up; what follows by tailFree, tailWait.
-/
import Derived.Test.YbulkgrwSetB
import Derived.Test.YbulkgrwFree
import Derived.Test.YbulkgrwWait
namespace Go.Proofs.Ybulkgrw
open Go.RowKit Go.Conc

set_option maxRecDepth 100000 in
set_option maxHeartbeats 4000000 in
theorem law_c (k0 k1 k2 k3 k4 : Nat) (a5 a6 a7 : Int) (w : World) (h0 : k0 ≤ 255) (h1 : k1 ≤ 255) (h2 : k2 ≤ 255) (h3 : k3 ≤ 255) (h4 : k4 ≤ 255) :
    Calls Yba.prog 5 #[.int .u8 (k0 : Nat), .int .u8 (k1 : Nat), .int .u8 (k2 : Nat), .int .u8 (k3 : Nat), .int .u8 (k4 : Nat), .int .i32 a5, .int .i32 a6, .int .i32 a7] w fun e w' => e = .returned (.bool true) ∧ Below w.heap.size w w' := by
  refine enter5 _ _ _ _ _ _ _ _ _ _ ?_
  show wpN Yba.prog (Code.seq _ _) _ _ _
  obtain ⟨np, hnp, hnp1, hnp8⟩ : ∃ np : Nat, (k0 : Int) % 8 + 1 = (np : Int) ∧ 0 < np ∧ np ≤ 8 := ⟨k0 % 8 + 1, by omega, by omega, by omega⟩
  refine wpN_seq_k fun K hK => ?_
  go_wp2
  refine wpN_seq_k fun K hK => ?_
  go_wp2
  refine wpN_seq_k fun K hK => ?_
  clear hnp
  go_wp2
  obtain ⟨csS, hcsS⟩ : ∃ csS, csS = #[Value.slice none 0 0, Value.pointer none, Value.int IntKind.i64 0, Value.nilFunc, Value.int IntKind.u64 0,
          Value.int IntKind.u64 0, Value.int IntKind.i32 0, Value.int IntKind.u32 0, Value.pointer none,
          Value.pointer none, Value.int IntKind.i64 0, Value.int IntKind.i64 0, Value.slice none 0 0,
          Value.slice none 0 0, Value.slice none 0 0, Value.int IntKind.u64 0, Value.bool false, Value.bool false,
          Value.bool false, Value.int IntKind.i64 0, Value.chan none, Value.int IntKind.i64 0, Value.int IntKind.i32 0,
          Value.int IntKind.i32 0, Value.int IntKind.i32 0, Value.int IntKind.i32 0, Value.int IntKind.i32 0,
          Value.int IntKind.u64 0, Value.int IntKind.i64 0, Value.int IntKind.i32 0, Value.int IntKind.u32 0,
          Value.pointer none, Value.int IntKind.u64 0, Value.int IntKind.u32 0] := ⟨_, rfl⟩
  rw [← hcsS]
  have s1 := Blk.new w csS 66 (b := w.heap.size) (n := 34) rfl (by rw [hcsS]; rfl)
  have B1 : Below w.heap.size w (w.alloc (.cells csS 66)) := (Below.refl _ w).alloc (Nat.le_refl _) _
  have z1 : (w.alloc (.cells csS 66)).heap.size = w.heap.size + 1 := by simp
  have F22 : litF csS 22 = .int .i32 0 := by rw [hcsS]; rfl
  have F23 : litF csS 23 = .int .i32 0 := by rw [hcsS]; rfl
  have F25 : litF csS 25 = .int .i32 0 := by rw [hcsS]; rfl
  clear hcsS
  obtain ⟨w1, hw1⟩ : ∃ w1, w1 = w.alloc (.cells csS 66) := ⟨_, rfl⟩
  rw [← hw1] at s1 B1 z1 ⊢
  clear hw1
  obtain ⟨fs1, hfs1⟩ : ∃ f, f = litF csS := ⟨_, rfl⟩
  rw [← hfs1] at s1 F22 F23 F25
  clear hfs1
  have HF : Hid (fs1 22 = .int .i32 0 ∧ fs1 23 = .int .i32 0 ∧ fs1 25 = .int .i32 0) := ⟨F22, F23, F25⟩
  clear F22 F23 F25
  obtain ⟨sb, hsb⟩ : ∃ sb, sb = w.heap.size := ⟨_, rfl⟩
  rw [← hsb] at s1 z1 ⊢
  have HB : Hid (sb = w.heap.size) := hsb
  clear hsb
  have hmk := run_make_row' (P := Yba.prog) 39 68 (.pointer none) 8 Yba.underlying39 (by kernel_rfl) rfl .i64 .i64 np (by omega) (by omega)
  have g1 := Blk.new w1 (madeCells #[Value.pointer none] np) 68 (b := sb + 1) (n := np) z1.symm (size_madeCells _ _)
  have s2 := s1.alloc (.cells (madeCells #[Value.pointer none] np) 68)
  have kk := s2.cell (i := 0) (by omega)
  have zz := s2.frz 0
  refine wpN_seq_k fun K hK => ?_
  go_wp2
  clear kk zz s2 g1 hmk
  obtain ⟨gp, hgp⟩ : ∃ gp, gp = sb + 1 := ⟨_, rfl⟩
  rw [← hgp]
  have HG : Hid (gp = sb + 1) := hgp
  have p0 : Pr w ((w1.setCell ⟨sb, 0, none⟩ (.slice (some ⟨gp, 0, none⟩) np np)).alloc (.cells (madeCells #[Value.pointer none] np) 68)) sb gp np (upd fs1 0 (.slice (some ⟨gp, 0, none⟩) np np)) := by
    refine ⟨(B1.setCell (by show _ ≤ sb; rw [HB.out]; exact Nat.le_refl _) _).alloc (by simp; rw [z1, ← HB.out]; omega) _, (s1.set 0 _).alloc _, _, Blk.new _ (madeCells #[Value.pointer none] np) 68 (n := np) (by simp [z1, hgp]) (size_madeCells _ _), fun j hj => ⟨none, ?_⟩⟩
    simp [litF, madeCells, hj, Nat.mod_one]
  clear hgp s1 z1 B1
  obtain ⟨w2, hw2⟩ : ∃ w2, w2 = (w1.setCell ⟨sb, 0, none⟩ (.slice (some ⟨gp, 0, none⟩) np np)).alloc (.cells (madeCells #[Value.pointer none] np) 68) := ⟨_, rfl⟩
  rw [← hw2] at p0 ⊢
  clear hw2
  obtain ⟨fs2, hfs2⟩ : ∃ f, f = upd fs1 0 (.slice (some ⟨gp, 0, none⟩) np np) := ⟨_, rfl⟩
  rw [← hfs2] at p0
  have HF2 : Hid (fs2 0 = .slice (some ⟨gp, 0, none⟩) np np ∧ fs2 22 = .int .i32 0 ∧ fs2 23 = .int .i32 0 ∧ fs2 25 = .int .i32 0) := by
    rw [hfs2]
    exact ⟨upd_same _ _ _, (upd_other _ _ _ _ (by omega)).trans HF.out.1, (upd_other _ _ _ _ (by omega)).trans HF.out.2.1, (upd_other _ _ _ _ (by omega)).trans HF.out.2.2⟩
  clear hfs2 HF fs1
  refine wpN_seq_k fun K hK => ?_
  go_wp2
  go_loopw [19] (fun i wr => ∃ k : Nat, k ≤ np ∧ i = .int .i64 k ∧ Pr w wr sb gp np fs2) (fun i _ => np - (intOf i).toNat)
  case atStart => exact ⟨0, by omega, rfl, p0⟩
  case round =>
    obtain ⟨k, hk, rfl, pr⟩ := hrel
    rename World => wa
    clear p0
    by_cases hkl : k < np
    · have hkl' : (k : Int) < np := by omega
      have t1 : wa.cell? ⟨sb, 0, none⟩ = some (.slice (some ⟨gp, 0, none⟩) np np) := by rw [pr.hs.cell (by omega), HF2.out.1]
      obtain ⟨pf, r1, r2⟩ := pr.hp
      have t2 := (r1.alloc (.cells (procCells sb k) 80)).cell (i := k) hkl
      have t3 := (r1.alloc (.cells (procCells sb k) 80)).frz k
      have hlt := r1.lt
      clear r1 r2
      go_wp2_with (first | refine wpList_build80 _ rfl (.tmp 58) (.tmp 59) rfl sb k rfl rfl ?_ | refine wpList_box80 _ rfl (.tmp 60) rfl (procCells sb k) rfl ?_)
      go_roundw
      case rel => exact ⟨k + 1, by omega, by go_num, pr.next (by have := HG.out; omega) (by have := HG.out; have := HB.out; omega) _ _ _⟩
      case measure => simp [intOf]; omega
    · have hkl' : ¬ (k : Int) < np := by omega
      go_wp2
      clear hkl hkl'
      obtain ⟨pf, r1, r2⟩ := pr.hp
      have HPF : Hid (∀ j, j < np → ∃ x, pf j = .pointer x) := r2
      have s1 := pr.hs
      have B1 := pr.bel
      clear pr r2 hk
      refine wpN_seq_k fun K hK => ?_
      go_wp2
      have hmk := run_make_row' (P := Yba.prog) 56 83 (.pointer none) 8 Yba.underlying56 (by kernel_rfl) rfl .i64 .i64 k1 (by omega) (by omega)
      refine wpN_seq_k fun K hK => ?_
      go_wp2
      clear hmk
      have d0 : Idl wa (wa.alloc (.cells (madeCells #[Value.pointer none] k1) 83)) wa.heap.size (wa.heap.size + 1) k1 0 :=
        ⟨(Below.refl _ wa).alloc (Nat.le_refl _) _, by simp, ⟨_, Blk.new wa (madeCells #[Value.pointer none] k1) 83 (n := k1) rfl (size_madeCells _ _), fun j hj => by omega⟩, fun j hj => by omega⟩
      obtain ⟨w3, hw3⟩ : ∃ w3, w3 = wa.alloc (.cells (madeCells #[Value.pointer none] k1) 83) := ⟨_, rfl⟩
      rw [← hw3] at d0 ⊢
      clear hw3
      have o1 : sb < wa.heap.size := s1.lt
      have o2 : gp < wa.heap.size := r1.lt
      obtain ⟨ib, hib⟩ : ∃ ib, ib = wa.heap.size := ⟨_, rfl⟩
      rw [← hib] at d0 o1 o2 ⊢
      have HIB : Hid (ib = wa.heap.size) := hib
      clear hib
      refine wpN_seq_k fun K hK => ?_
      go_wp2
      go_loopw [22, 23] (fun i _ wr => ∃ k : Nat, k ≤ k1 ∧ i = .int .i64 k ∧ Idl wa wr ib (ib + 1) k1 k) (fun i _ _ => k1 - (intOf i).toNat)
      case atStart => exact ⟨0, by omega, rfl, d0⟩
      case round =>
        obtain ⟨k, hk, rfl, dl⟩ := hrel
        rename World => wc
        clear d0
        by_cases hkl : k < k1
        · have hkl' : (k : Int) < k1 := by omega
          go_upto_region 14 with (go_at_call 12; refine (newWorker_n none _).mono ?_; rintro e v ⟨rfl, nk⟩)
          have q1 := nk.blk.cell (i := 9) (by omega)
          have q2 := nk.blk.frz 9
          go_upto_region 15 with fail
          obtain ⟨f, r3, r4⟩ := dl.row
          have r5 := (r3.keep nk.bel r3.lt).other ⟨wc.heap.size + 1, 9, none⟩ (.int .i64 k) (by show ib ≠ wc.heap.size + 1; have := r3.lt; omega)
          have q3 := r5.cell (i := k) hkl
          have q4 := r5.frz k
          clear r3 r4 r5 q1 q2
          go_wp2
          go_roundw
          case rel => exact ⟨k + 1, by omega, by go_num, dl.next (by omega) HIB.out.symm nk⟩
          case measure => simp [intOf]; omega
        · have hkl' : ¬ (k : Int) < k1 := by omega
          go_wp2
          have hkk : k = k1 := by omega
          clear hkl hkl' hk
          generalize Value.int IntKind.i64 (k : Int) = xk
          rw [hkk] at dl
          clear hkk
          have s2 := s1.keep dl.bel s1.lt
          have r2 := r1.keep dl.bel r1.lt
          have B2 : Below w.heap.size w wc := B1.trans (dl.bel.mono (by have := B1.size; omega))
          have i2 : Blk wc ib 83 k1 (fun j => .pointer (some ⟨ib + 1 + 2 * j + 1, 0, none⟩)) := by obtain ⟨f, r3, r4⟩ := dl.row; exact r3.to r4
          have I2 := dl.wk
          have z2 := dl.size
          clear dl s1 r1 B1 HIB
          have kk := s2.cell (i := 12) (by omega)
          have zz := s2.frz 12
          refine wpN_seq_k fun K hK => ?_
          go_wp2
          clear kk zz
          have sx : Blk (wc.setCell ⟨sb, 12, none⟩ (.slice (some ⟨ib, 0, none⟩) k1 k1)) sb 66 34 (upd fs2 12 (.slice (some ⟨ib, 0, none⟩) k1 k1)) := s2.set 12 _
          have rx := r2.other ⟨sb, 12, none⟩ (.slice (some ⟨ib, 0, none⟩) k1 k1) (by show gp ≠ sb; have := HG.out; omega)
          have ix := i2.other ⟨sb, 12, none⟩ (.slice (some ⟨ib, 0, none⟩) k1 k1) (by show ib ≠ sb; omega)
          have Ix : ∀ j, j < k1 → Blk (wc.setCell ⟨sb, 12, none⟩ (.slice (some ⟨ib, 0, none⟩) k1 k1)) (ib + 1 + 2 * j + 1) 91 12 (litF (wkCells (.pointer none) (ib + 1 + 2 * j) j false)) := fun j hj => (I2 j hj).other _ _ (by show ib + 1 + 2 * j + 1 ≠ sb; omega)
          have Bx : Below w.heap.size w (wc.setCell ⟨sb, 12, none⟩ (.slice (some ⟨ib, 0, none⟩) k1 k1)) := B2.setCell (by show _ ≤ sb; rw [HB.out]; exact Nat.le_refl _) _
          have zx : (wc.setCell ⟨sb, 12, none⟩ (.slice (some ⟨ib, 0, none⟩) k1 k1)).heap.size = ib + 1 + 2 * k1 := by simpa using z2
          obtain ⟨w4, hw4⟩ : ∃ w4, w4 = wc.setCell ⟨sb, 12, none⟩ (.slice (some ⟨ib, 0, none⟩) k1 k1) := ⟨_, rfl⟩
          rw [← hw4] at sx rx ix Ix Bx zx ⊢
          clear hw4 s2 r2 B2 i2 I2 z2
          have ZX : Hid (w4.heap.size = ib + 1 + 2 * k1) := zx
          clear zx
          obtain ⟨nw, hnw, hnw5⟩ : ∃ nw : Nat, (k2 : Int) % 6 = (nw : Int) ∧ nw ≤ 5 := ⟨k2 % 6, by omega, by omega⟩
          refine wpN_seq_k fun K hK => ?_
          go_wp2
          rw [hnw]
          clear hnw
          have hmk := run_make_row' (P := Yba.prog) 56 83 (.pointer none) 8 Yba.underlying56 (by kernel_rfl) rfl .i64 .i64 nw (by omega) (by omega)
          refine wpN_seq_k fun K hK => ?_
          go_wp2
          clear hmk
          have d0 : Wt w4 (w4.alloc (.cells (madeCells #[Value.pointer none] nw) 83)) w4.heap.size (w4.heap.size + 1) nw 0 :=
            ⟨(Below.refl _ w4).alloc (Nat.le_refl _) _, by simp, ⟨_, Blk.new w4 (madeCells #[Value.pointer none] nw) 83 (n := nw) rfl (size_madeCells _ _), fun j hj => by omega⟩, fun j hj => by omega, fun j hj => by omega⟩
          obtain ⟨w5, hw5⟩ : ∃ w5, w5 = w4.alloc (.cells (madeCells #[Value.pointer none] nw) 83) := ⟨_, rfl⟩
          rw [← hw5] at d0 ⊢
          clear hw5
          obtain ⟨vb, hvb⟩ : ∃ vb, vb = w4.heap.size := ⟨_, rfl⟩
          rw [← hvb] at d0 ⊢
          have HVB : Hid (vb = w4.heap.size ∧ vb = ib + 1 + 2 * k1) := ⟨hvb, hvb.trans ZX.out⟩
          clear hvb ZX
          refine wpN_seq_k fun K hK => ?_
          go_wp2
          go_loopw [26] (fun i wr => ∃ k : Nat, k ≤ nw ∧ i = .int .i64 k ∧ Wt w4 wr vb (vb + 1) nw k) (fun i _ => nw - (intOf i).toNat)
          case atStart => exact ⟨0, by omega, rfl, d0⟩
          case round =>
            obtain ⟨k, hk, rfl, dl⟩ := hrel
            rename World => wd
            clear d0
            by_cases hkl : k < nw
            · have hkl' : (k : Int) < nw := by omega
              obtain ⟨f, r3, r4⟩ := dl.row
              go_upto_region 21 with (go_at_call 12; refine (newWorker_n none _).mono ?_; rintro e v ⟨rfl, nk⟩; have r5 := r3.keep nk.bel r3.lt; have q3 := r5.cell (i := k) hkl; have q4 := r5.frz k)
              clear r3 r4
              go_wp2
              go_roundw
              case rel => exact ⟨k + 1, by omega, by go_num, dl.next (by omega) HVB.out.1.symm nk⟩
              case measure => simp [intOf]; omega
            · have hkl' : ¬ (k : Int) < nw := by omega
              go_wp2
              have hkk : k = nw := by omega
              clear hkl hkl' hk
              generalize Value.int IntKind.i64 (k : Int) = xk2
              rw [hkk] at dl
              clear hkk
              have F : Fx w wd sb gp ib vb (ib + 1) (vb + 1) np k1 nw (upd fs2 12 (.slice (some ⟨ib, 0, none⟩) k1 k1)) pf := by
                have e1 := HVB.out.1
                have e2 := HVB.out.2
                have e3 := HG.out
                have e4 := HB.out
                exact ⟨Bx.trans (dl.bel.mono (by omega)), sx.keep dl.bel sx.lt, rx.keep dl.bel rx.lt, ix.keep dl.bel ix.lt, fun j hj => (Ix j hj).keep dl.bel (Ix j hj).lt, by (obtain ⟨f, r3, r4⟩ := dl.row; exact r3.to r4), dl.wk, dl.ch, by omega, by omega, o2, by omega, by omega, by omega, by have := dl.size; omega⟩
              have ZD : Hid (wd.heap.size = vb + 1 + 2 * nw) := dl.size
              clear dl Bx Ix ix rx sx HVB
              have hmk := run_make_row' (P := Yba.prog) 56 83 (.pointer none) 8 Yba.underlying56 (by kernel_rfl) rfl .i64 .i64 nw (by omega) (by omega)
              have s2 := F.hs.alloc (.cells (madeCells #[Value.pointer none] nw) 83)
              have kk := s2.cell (i := 14) (by omega)
              have zz := s2.frz 14
              clear s2
              refine wpN_seq_k fun K hK => ?_
              go_wp2
              clear hmk kk zz
              have F1 := (F.alloc (.cells (madeCells #[Value.pointer none] nw) 83)).store 14 (.slice (some ⟨wd.heap.size, 0, none⟩) nw nw)
              have t1 := (Blk.new wd (madeCells #[Value.pointer none] nw) 83 (b := wd.heap.size) (n := nw) rfl (size_madeCells _ _)).other ⟨sb, 14, none⟩ (.slice (some ⟨wd.heap.size, 0, none⟩) nw nw) (by show wd.heap.size ≠ sb; have := F.hs.lt; omega)
              have z1 : ((wd.alloc (.cells (madeCells #[Value.pointer none] nw) 83)).setCell ⟨sb, 14, none⟩ (.slice (some ⟨wd.heap.size, 0, none⟩) nw nw)).heap.size = wd.heap.size + 1 := by simp
              obtain ⟨tb, htb⟩ : ∃ tb, tb = wd.heap.size := ⟨_, rfl⟩
              rw [← htb] at F1 t1 z1 ⊢
              have HTB : Hid (tb = vb + 1 + 2 * nw) := htb.trans ZD.out
              clear htb ZD F
              obtain ⟨w6, hw6⟩ : ∃ w6, w6 = (wd.alloc (.cells (madeCells #[Value.pointer none] nw) 83)).setCell ⟨sb, 14, none⟩ (.slice (some ⟨tb, 0, none⟩) nw nw) := ⟨_, rfl⟩
              rw [← hw6] at F1 t1 z1 ⊢
              clear hw6
              have Z1 : Hid (w6.heap.size = tb + 1) := z1
              clear z1
              have k14 : w6.cell? ⟨sb, 14, none⟩ = some (.slice (some ⟨tb, 0, none⟩) nw nw) := by rw [F1.hs.cell (by omega), upd_same]
              refine wpN_seq_k fun K hK => ?_
              have hsrc : 0 < nw → ∃ ad, (some (⟨vb, 0, none⟩ : Addr)) = some ad ∧ ∀ j, j < nw → w6.cell? (ad.add j) = some (.pointer (some ⟨vb + 1 + 2 * j + 1, 0, none⟩)) :=
                fun _ => ⟨_, rfl, fun j hj => by rw [Go.WideShapes.add_plain, Nat.zero_add]; exact F1.hv.cell hj⟩
              have hmin : Hid (nw = Nat.min nw nw) := (Nat.min_self nw).symm
              go_wp2_with (refine wpList_copy83 rfl (.tmp 107) (.tmp 108) rfl tb nw nw nw _ t1 (some ⟨vb, 0, none⟩) nw nw nw (fun j => .pointer (some ⟨vb + 1 + 2 * j + 1, 0, none⟩)) rfl rfl hmin.out (Nat.le_refl _) hsrc (fun _ _ => rfl) ?_; intro w7 t7 o7)
              clear hsrc hmin
              clear k14
              have F2 := F1.keep (o7.below (by have := HTB.out; omega))
              have t2 : Blk w7 tb 83 nw (fun j => .pointer (some ⟨vb + 1 + 2 * j + 1, 0, none⟩)) := t7.to (fun i hi => if_pos hi)
              have Z2 : Hid (w7.heap.size = tb + 1) := o7.size.trans Z1.out
              clear t7 o7 t1 F1 Z1
              have k14 : w7.cell? ⟨sb, 14, none⟩ = some (.slice (some ⟨tb, 0, none⟩) nw nw) := by rw [F2.hs.cell (by omega), upd_same]
              refine wpN_seq_k fun K hK => ?_
              go_wp2
              clear k14
              have hnpI : (0 : Int) < (np : Int) := by omega
              have hnpN : ¬ (np : Int) = 0 := by omega
              refine wpN_seq_k fun K hK => ?_
              go_wp2
              obtain ⟨nip, hnq, hnqp⟩ : ∃ nip : Nat, (k3 : Int) % (np : Int) = (nip : Int) ∧ nip < np := ⟨k3 % np, by simp, Nat.mod_lt _ hnp1⟩
              rw [hnq]
              clear hnq hnpI hnpN
              have hmk := run_make_row' (P := Yba.prog) 39 68 (.pointer none) 8 Yba.underlying39 (by kernel_rfl) rfl .i64 .i64 nip (by omega) (by omega)
              have s2 := F2.hs.alloc (.cells (madeCells #[Value.pointer none] nip) 68)
              have kk := s2.cell (i := 13) (by omega)
              have zz := s2.frz 13
              clear s2
              refine wpN_seq_k fun K hK => ?_
              go_wp2
              clear hmk kk zz
              have F3 := (F2.alloc (.cells (madeCells #[Value.pointer none] nip) 68)).store 13 (.slice (some ⟨w7.heap.size, 0, none⟩) nip nip)
              have hsne : w7.heap.size ≠ sb := by have := F2.hs.lt; omega
              have q3 := (Blk.new w7 (madeCells #[Value.pointer none] nip) 68 (b := w7.heap.size) (n := nip) rfl (size_madeCells _ _)).other ⟨sb, 13, none⟩ (.slice (some ⟨w7.heap.size, 0, none⟩) nip nip) hsne
              have t3 := (t2.alloc (.cells (madeCells #[Value.pointer none] nip) 68)).other ⟨sb, 13, none⟩ (.slice (some ⟨w7.heap.size, 0, none⟩) nip nip) (by show tb ≠ sb; have := HTB.out; have := F2.o1; have := F2.o2; have := F2.o3; have := F2.o4; have := F2.o5; omega)
              have Q0 : Qr w ((w7.alloc (.cells (madeCells #[Value.pointer none] nip) 68)).setCell ⟨sb, 13, none⟩ (.slice (some ⟨w7.heap.size, 0, none⟩) nip nip)) sb gp ib vb (ib + 1) (vb + 1) np k1 nw tb w7.heap.size nip 0 _ pf :=
                ⟨F3, t3, ⟨_, q3, fun j hj => by omega⟩, by have := HTB.out; omega, by have := Z2.out; omega, by simp⟩
              clear F3 q3 t3 hsne F2 t2
              obtain ⟨qb, hqb⟩ : ∃ qb, qb = w7.heap.size := ⟨_, rfl⟩
              rw [← hqb] at Q0 ⊢
              clear hqb Z2 HTB
              obtain ⟨w8, hw8⟩ : ∃ w8, w8 = (w7.alloc (.cells (madeCells #[Value.pointer none] nip) 68)).setCell ⟨sb, 13, none⟩ (.slice (some ⟨qb, 0, none⟩) nip nip) := ⟨_, rfl⟩
              rw [← hw8] at Q0 ⊢
              clear hw8
              obtain ⟨fs4, hfs4⟩ : ∃ f, f = upd (upd (upd fs2 12 (.slice (some ⟨ib, 0, none⟩) k1 k1)) 14 (.slice (some ⟨tb, 0, none⟩) nw nw)) 13 (.slice (some ⟨qb, 0, none⟩) nip nip) := ⟨_, rfl⟩
              rw [← hfs4] at Q0
              have HF4 : Hid (fs4 0 = .slice (some ⟨gp, 0, none⟩) np np ∧ fs4 12 = .slice (some ⟨ib, 0, none⟩) k1 k1 ∧ fs4 13 = .slice (some ⟨qb, 0, none⟩) nip nip ∧ fs4 14 = .slice (some ⟨tb, 0, none⟩) nw nw) := by
                rw [hfs4]
                exact ⟨HF2.out.1, rfl, rfl, rfl⟩
              clear hfs4 HF2
              refine wpN_seq_k fun K hK => ?_
              go_wp2
              go_loopw [29] (fun i wr => ∃ k : Nat, k ≤ nip ∧ i = .int .i64 k ∧ Qr w wr sb gp ib vb (ib + 1) (vb + 1) np k1 nw tb qb nip k fs4 pf) (fun i _ => nip - (intOf i).toNat)
              case atStart => exact ⟨0, by omega, rfl, Q0⟩
              case round =>
                obtain ⟨k, hk, rfl, qr⟩ := hrel
                rename World => we
                clear Q0
                by_cases hkl : k < nip
                · have hkl' : (k : Int) < nip := by omega
                  have hkl2 : (k : Int) < np := by omega
                  have t1 : we.cell? ⟨sb, 13, none⟩ = some (.slice (some ⟨qb, 0, none⟩) nip nip) := by rw [qr.fx.hs.cell (by omega), HF4.out.2.2.1]
                  have t2 : we.cell? ⟨sb, 0, none⟩ = some (.slice (some ⟨gp, 0, none⟩) np np) := by rw [qr.fx.hs.cell (by omega), HF4.out.1]
                  obtain ⟨x, hx⟩ := HPF.out k (by omega)
                  have t3 : we.cell? ⟨gp, k, none⟩ = some (.pointer x) := by rw [qr.fx.hp.cell (by omega), hx]
                  obtain ⟨f, r3, r4⟩ := qr.hq
                  have t4 := r3.cell (i := k) hkl
                  have t5 := r3.frz k
                  have hx' : Hid (pf k = .pointer x) := hx
                  have n1 : ¬ qb = sb := by have := qr.o6; have := qr.o7; have := qr.fx.o1; have := qr.fx.o2; have := qr.fx.o3; have := qr.fx.o4; have := qr.fx.o5; omega
                  have n2 : ¬ sb = qb := fun e => n1 e.symm
                  have n3 : ¬ qb = gp := by have := qr.o6; have := qr.o7; have := qr.fx.o1; have := qr.fx.o2; have := qr.fx.o3; have := qr.fx.o4; have := qr.fx.o5; omega
                  have n4 : ¬ gp = qb := fun e => n3 e.symm
                  clear r3 r4 hx
                  go_upto_region 31 with fail
                  go_region_held3 (fun w' => w'.cell? ⟨sb, 13, none⟩ = some (.slice (some ⟨qb, 0, none⟩) nip nip) ∧ w'.cell? ⟨sb, 0, none⟩ = some (.slice (some ⟨gp, 0, none⟩) np np) ∧ w'.cell? ⟨gp, k, none⟩ = some (.pointer x)) (go_keep) ((fail))
                  clear t1 t2 t3 t4 t5
                  rename_i hh
                  clear hh
                  go_wp2
                  go_roundw
                  case rel => exact ⟨k + 1, by omega, by go_num, qr.next _ hx'.out.symm⟩
                  case measure => simp [intOf]; omega
                · have hkl' : ¬ (k : Int) < nip := by omega
                  go_wp2
                  have hkk : k = nip := by omega
                  clear hkl hkl' hk
                  generalize Value.int IntKind.i64 (k : Int) = xk3
                  rw [hkk] at qr
                  clear hkk
                  obtain ⟨kp, hkp, hkpp⟩ : ∃ kp : Nat, (k4 : Int) % (np : Int) = (kp : Int) ∧ kp < np := ⟨k4 % np, by simp, Nat.mod_lt _ hnp1⟩
                  have hnpI : (0 : Int) < (np : Int) := by omega
                  have hnpN : ¬ (np : Int) = 0 := by omega
                  have hkpI : (kp : Int) < (np : Int) := by omega
                  have t2 : we.cell? ⟨sb, 0, none⟩ = some (.slice (some ⟨gp, 0, none⟩) np np) := by rw [qr.fx.hs.cell (by omega), HF4.out.1]
                  obtain ⟨px, hx⟩ := HPF.out kp hkpp
                  have t3 : we.cell? ⟨gp, kp, none⟩ = some (.pointer px) := by rw [qr.fx.hp.cell hkpp, hx]
                  clear hx
                  refine wpN_seq_k fun K hK => ?_
                  go_quiet (fail)
                  clear t2 t3 hnpI hnpN hkpI hkp
                  go_wp2
                  have qd : Qr w (we.drewN nq) sb gp ib vb (ib + 1) (vb + 1) np k1 nw tb qb nip nip fs4 pf := ⟨qr.fx.drewN _, qr.ht.drewN _, (by obtain ⟨f, r3, r4⟩ := qr.hq; exact ⟨f, r3.drewN _, r4⟩), qr.o6, qr.o7, qr.size⟩
                  clear qr
                  obtain ⟨wf, hwf⟩ : ∃ wf, wf = we.drewN nq := ⟨_, rfl⟩
                  rw [← hwf] at qd ⊢
                  clear hwf nq
                  refine wpN_seq_k fun K hK => ?_
                  go_wp2_with (go_at_call 12; refine (newWorker_n px _).mono ?_; rintro e v ⟨rfl, nk⟩)
                  have o6 := qd.o6
                  have o7 := qd.o7
                  have o8 := qd.size
                  have p1 := qd.fx.o1
                  have p2 := qd.fx.o2
                  have p3 := qd.fx.o3
                  have p4 := qd.fx.o4
                  have p5 := qd.fx.o5
                  have F5 := qd.fx.keep (nk.bel.mono (by omega))
                  have t5 := qd.ht.keep nk.bel qd.ht.lt
                  have q5 : Blk v qb 68 nip pf := by obtain ⟨f, r3, r4⟩ := qd.hq; exact (r3.keep nk.bel r3.lt).to r4
                  have b5 := nk.blk
                  have c5 := nk.ch
                  clear qd nk
                  obtain ⟨wcn, hwcn⟩ : ∃ wcn, wcn = wf.heap.size := ⟨_, rfl⟩
                  rw [← hwcn] at b5 c5 o8 ⊢
                  clear hwcn
                  have k22 := F5.hs.cell (i := 22) (by omega)
                  have z22 := F5.hs.frz 22
                  refine wpN_seq_k fun K hK => ?_
                  go_wp2_with (go_at_call 13; refine (storeI32_c ⟨sb, 22, none⟩ a5 _ _ k22 z22).mono ?_; rintro e w' ⟨rfl, hw'⟩; rw [hw']; clear hw' w')
                  clear k22 z22
                  have F6 := F5.store 22 (.int .i32 a5)
                  have t6 := t5.other ⟨sb, 22, none⟩ (.int .i32 a5) (by show tb ≠ sb; omega)
                  have q6 := q5.other ⟨sb, 22, none⟩ (.int .i32 a5) (by show qb ≠ sb; omega)
                  have b6 := b5.other ⟨sb, 22, none⟩ (.int .i32 a5) (by show wcn + 1 ≠ sb; omega)
                  have c6 := (Below.heap_setCell v ⟨sb, 22, none⟩ (.int .i32 a5) wcn (by show wcn ≠ sb; omega)).trans c5
                  obtain ⟨v2, hv2⟩ : ∃ v2, v2 = v.setCell ⟨sb, 22, none⟩ (.int .i32 a5) := ⟨_, rfl⟩
                  rw [← hv2] at F6 t6 q6 b6 c6 ⊢
                  clear hv2 F5 t5 q5 b5 c5
                  have k23 := F6.hs.cell (i := 23) (by omega)
                  have z23 := F6.hs.frz 23
                  refine wpN_seq_k fun K hK => ?_
                  go_wp2_with (go_at_call 13; refine (storeI32_c ⟨sb, 23, none⟩ a6 _ _ k23 z23).mono ?_; rintro e w' ⟨rfl, hw'⟩; rw [hw']; clear hw' w')
                  clear k23 z23
                  have F7 := F6.store 23 (.int .i32 a6)
                  have t7 := t6.other ⟨sb, 23, none⟩ (.int .i32 a6) (by show tb ≠ sb; omega)
                  have q7 := q6.other ⟨sb, 23, none⟩ (.int .i32 a6) (by show qb ≠ sb; omega)
                  have b7 := b6.other ⟨sb, 23, none⟩ (.int .i32 a6) (by show wcn + 1 ≠ sb; omega)
                  have c7 := (Below.heap_setCell v2 ⟨sb, 23, none⟩ (.int .i32 a6) wcn (by show wcn ≠ sb; omega)).trans c6
                  obtain ⟨v3, hv3⟩ : ∃ v3, v3 = v2.setCell ⟨sb, 23, none⟩ (.int .i32 a6) := ⟨_, rfl⟩
                  rw [← hv3] at F7 t7 q7 b7 c7 ⊢
                  clear hv3 F6 t6 q6 b6 c6
                  have k25 := F7.hs.cell (i := 25) (by omega)
                  have z25 := F7.hs.frz 25
                  refine wpN_seq_k fun K hK => ?_
                  go_wp2_with (go_at_call 13; refine (storeI32_c ⟨sb, 25, none⟩ a7 _ _ k25 z25).mono ?_; rintro e w' ⟨rfl, hw'⟩; rw [hw']; clear hw' w')
                  clear k25 z25
                  have F8 := F7.store 25 (.int .i32 a7)
                  have t8 := t7.other ⟨sb, 25, none⟩ (.int .i32 a7) (by show tb ≠ sb; omega)
                  have q8 := q7.other ⟨sb, 25, none⟩ (.int .i32 a7) (by show qb ≠ sb; omega)
                  have b8 := b7.other ⟨sb, 25, none⟩ (.int .i32 a7) (by show wcn + 1 ≠ sb; omega)
                  have c8 := (Below.heap_setCell v3 ⟨sb, 25, none⟩ (.int .i32 a7) wcn (by show wcn ≠ sb; omega)).trans c7
                  obtain ⟨v4, hv4⟩ : ∃ v4, v4 = v3.setCell ⟨sb, 25, none⟩ (.int .i32 a7) := ⟨_, rfl⟩
                  rw [← hv4] at F8 t8 q8 b8 c8 ⊢
                  clear hv4 F7 t7 q7 b7 c7
                  obtain ⟨g0, g12, g13, g14⟩ := HF4.out
                  have L : Laid sb v4 sb gp ib vb tb qb (wcn + 1) wcn (ib + 1) (vb + 1) np k1 nw nip (upd (upd (upd fs4 22 (.int .i32 a5)) 23 (.int .i32 a6)) 25 (.int .i32 a7)) pf px a5 a6 a7 :=
                    ⟨F8.hs, F8.hp, F8.hi, F8.hI, F8.hv, F8.hV, F8.hC, t8, q8, b8, c8, HPF.out, g0, g12, g13, g14, rfl, rfl, rfl, Nat.le_refl _, p1, p2, p3, p4, p5, o6, o7, o8, by omega, h1, hnw5, hnqp, hnp8⟩
                  have hBel : Below sb w v4 := by have := F8.bel; rw [← HB.out] at this; exact this
                  clear F8 t8 q8 b8 c8 g0 g12 g13 g14
                  by_cases hn0 : nw = 0
                  · subst hn0
                    exact tailFree k0 k1 k2 k3 k4 a5 a6 a7 sb w v4 sb gp ib vb tb qb (wcn + 1) wcn (ib + 1) (vb + 1) np k1 nip _ pf px L hBel _ (fun w' h => ⟨rfl, h⟩)
                  · exact tailWait k0 k1 k2 k3 k4 a5 a6 a7 sb w v4 sb gp ib vb tb qb (wcn + 1) wcn (ib + 1) (vb + 1) np k1 nw nip _ pf px L (by omega) hBel _ (fun w' h => ⟨rfl, h⟩)
end Go.Proofs.Ybulkgrw

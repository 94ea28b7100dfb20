/-
  LawS0373BIdle from the call of idleLocked on, where a worker waits.
-/
import Derived.Test.YbulkgrwTail
namespace Go.Proofs.Ybulkgrw
open Go.RowKit Go.Conc

set_option maxRecDepth 100000 in
set_option maxHeartbeats 4000000 in
theorem tailWait {x19 x22 x23 x26 x29 x37 x38 x39 x40 x41 x42 x43 x44 x45 x46 x47 x48 x49 x50 x51 x52 x53 x54 x55 x56 x57 x58 x59 x60 x61 x62 x63 x64 x65 x66 x67 x68 x69 x70 x71 x72 x73 x74 x75 x76 x77 x78 x79 x80 x81 x82 x83 x84 x85 x86 x87 x88 x89 x90 x91 x92 x93 x94 x95 x96 x97 x98 x99 x100 x101 x102 x103 x104 x105 x106 x107 x108 x109 x110 x111 x112 x113 x114 x115 x116 x117 x118 x119 x120 x121 x122 x123 x124 x125 x126 x127 x128 x129 x130 x131 x132 x133 x134 x135 x136 x137 x138 x139 x140 x141 x142 x143 x144 x145 x146 x147 x148 x149 x150 x151 x152 x153 x154 x155 x156 x157 x158 x159 x160 x161 x162 x163 x164 x165 x166 x167 : Value} (a0 a1 a2 a3 a4 a5 a6 a7 : Int) (n0 : Nat) (W w : World) (sb gp ib vb tb qb wb wc I0 V0 np ni nw nq : Nat) (fs pf : Nat → Value) (p : Option Addr) (L : Laid n0 w sb gp ib vb tb qb wb wc I0 V0 np ni nw nq fs pf p a5 a6 a7)
    (hnw : 0 < nw) (hB : Below n0 W w) (R : Ending → World → Prop) (hR : ∀ w', Below n0 W w' → R (.returned (.bool true)) w') :
    wpN Yba.prog tail5 (bodyPost Yba.prog Yba.f5 R) { tmps := #[.int .u8 a0, .int .u8 a1, .int .u8 a2, .int .u8 a3, .int .u8 a4, .int .i32 a5, .int .i32 a6, .int .i32 a7, undef, undef, undef, undef, undef, undef, undef, undef, .bool false, .int .i64 np, .pointer (some ⟨sb, 0, none⟩), x19, .int .i64 ni, .slice (some ⟨ib, 0, none⟩) ni ni, x22, x23, .int .i64 nw, .slice (some ⟨vb, 0, none⟩) nw nw, x26, .slice (some ⟨tb, 0, none⟩) nw nw, .int .i64 nq, x29, .pointer p, .pointer (some ⟨wb, 0, none⟩), undef, undef, undef, undef, undef, x37, x38, x39, x40, x41, x42, x43, x44, x45, x46, x47, x48, x49, x50, x51, x52, x53, x54, x55, x56, x57, x58, x59, x60, x61, x62, x63, x64, x65, x66, x67, x68, x69, x70, x71, x72, x73, x74, x75, x76, x77, x78, x79, x80, x81, x82, x83, x84, x85, x86, x87, x88, x89, x90, x91, x92, x93, x94, x95, x96, x97, x98, x99, x100, x101, x102, x103, x104, x105, x106, x107, x108, x109, x110, x111, x112, x113, x114, x115, x116, x117, x118, x119, x120, x121, x122, x123, x124, x125, x126, x127, x128, x129, x130, x131, x132, x133, x134, x135, x136, x137, x138, x139, x140, x141, x142, x143, x144, x145, x146, x147, x148, x149, x150, x151, x152, x153, x154, x155, x156, x157, x158, x159, x160, x161, x162, x163, x164, x165, x166, x167, undef, undef, undef, undef, undef, undef, undef, undef, undef, undef, undef, undef, undef, undef, undef, undef, undef, undef, undef, undef, undef, undef, undef, undef, undef, undef, undef, undef, undef, undef, undef, undef, undef, undef, undef, undef, undef, undef, undef, undef, undef, undef, undef, undef, undef, undef, undef, undef, undef, undef, undef, undef, undef, undef, undef, undef, undef, undef, undef, undef, undef, undef, undef, undef, undef, undef, undef, undef, undef, undef, undef, undef, undef, undef, undef, undef, undef, undef, undef, undef, undef, undef, undef, undef, undef, undef, undef, undef, undef, undef, undef, undef, undef, undef, undef, undef, undef, undef, undef, undef, undef, undef, undef, undef, undef, undef, undef, undef, undef, undef, undef, undef, undef, undef, undef, undef, undef, undef, undef, undef, undef, undef, undef, undef, undef, undef, undef, undef, undef, undef, undef, undef, undef, undef, undef, undef, undef, undef, undef, undef, undef, undef, undef, undef, undef, undef, undef, undef, undef, undef, undef, undef, undef, undef, undef, undef, undef, undef, undef, undef, undef, undef, undef, undef, undef, undef, undef, undef, undef, undef, undef, undef, undef, undef, undef, undef, undef, undef, undef, undef, undef, undef, undef, undef, undef, undef, undef, undef, undef, undef, undef, undef, undef, undef, undef, undef, undef, undef, undef, undef, undef, undef, undef, undef, undef, undef, undef, undef, undef, undef, undef, undef, undef, undef, undef, undef, undef, undef, undef, undef, undef, undef, undef, undef, undef, undef, undef, undef, undef, undef, undef, undef, undef, undef, undef, undef, undef, undef, undef, undef, undef, undef, undef, undef, undef, undef, undef, undef, undef, undef, undef, undef, undef, undef, undef, undef, undef, undef, undef, undef, undef, undef], defers := [] } w := by
  have HL : Hid (Laid n0 w sb gp ib vb tb qb wb wc I0 V0 np ni nw nq fs pf p a5 a6 a7) := L
  show wpN Yba.prog (Code.seq _ _) _ _ _
  have hx0 : w.cell? ⟨V0 + 1, 2, none⟩ = some (.chan (some V0)) := (L.hV 0 hnw).cell (i := 2) (by omega)
  have hcall := idleWait_c sb wb ib gp tb (V0 + 1) V0 ni np nw 0 0 false fs _ _ _ p a6 a7 w L.hs L.hw L.hi L.ht L.f0 L.f12 L.f14 L.f23 L.f25 rfl rfl (fun _ _ => rfl) hx0
    (by have := L.o6; have := L.o7; have := L.o8; have := L.o9; omega) (by have := L.o1; have := L.o2; have := L.o3; have := L.o4; have := L.o5; omega) (by have := L.o6; omega) (L.hC 0 hnw) L.m0 hnw L.m1
  clear L hx0
  refine wpN_seq_k fun K hK => ?_
  go_wp2_with (go_at_call 14; refine hcall.mono ?_; clear hcall; rintro e w1 ⟨rfl, g, cap, m, gf, hg, s1, ww1, g1, hm, hgf, hgn, t1, x1, b1⟩)
  have L := HL.out
  have m0 := L.m0
  have m1 := L.m1
  have wlt := L.hw.lt
  have B1 : Below n0 W w1 := hB.trans (b1.to n0 (by have := L.hs.lt; have := L.o0; omega) (fun k hk => by have := L.o0; have := L.o1; have := L.o2; have := L.o3; have := L.o4; have := L.o5; have := L.o6; have := L.o7; have := L.o8; have := L.o9; simp at hk; omega))
  have i1 : Blk w1 ib 83 ni (fun j => .pointer (some ⟨I0 + 2 * j + 1, 0, none⟩)) := L.hi.but b1 L.hi.lt (by have := L.o0; have := L.o1; have := L.o2; have := L.o3; have := L.o4; have := L.o5; have := L.o6; have := L.o7; have := L.o8; have := L.o9; simp; omega)
  have I1 : ∀ j, j < ni → Blk w1 (I0 + 2 * j + 1) 91 12 (litF (wkCells (.pointer none) (I0 + 2 * j) j false)) := fun j hj => (L.hI j hj).but b1 (L.hI j hj).lt (by have := L.o1; have := L.o2; have := L.o3; have := L.o4; have := L.o5; have := L.o6; have := L.o7; have := L.o8; have := L.o9; simp; omega)
  have p1 : Blk w1 gp 68 np pf := L.hp.but b1 L.hp.lt (by have := L.o1; have := L.o2; have := L.o3; have := L.o4; have := L.o5; have := L.o6; have := L.o7; have := L.o8; have := L.o9; simp; omega)
  have q1 : Blk w1 qb 68 nq pf := L.hq.but b1 L.hq.lt (by have := L.o1; have := L.o2; have := L.o3; have := L.o4; have := L.o5; have := L.o6; have := L.o7; have := L.o8; have := L.o9; simp; omega)
  have v1 : Blk w1 vb 83 nw (fun j => .pointer (some ⟨V0 + 2 * j + 1, 0, none⟩)) := L.hv.but b1 L.hv.lt (by have := L.o1; have := L.o2; have := L.o3; have := L.o4; have := L.o5; have := L.o6; have := L.o7; have := L.o8; have := L.o9; simp; omega)
  have V1 : ∀ j, j < nw → Blk w1 (V0 + 2 * j + 1) 91 12 (litF (wkCells (.pointer none) (V0 + 2 * j) (-1) false)) := fun j hj => (L.hV j hj).but b1 (L.hV j hj).lt (by have := L.o1; have := L.o2; have := L.o3; have := L.o4; have := L.o5; have := L.o6; have := L.o7; have := L.o8; have := L.o9; simp; omega)
  have C1 : ∀ j, j + 1 < nw → w1.heap[V0 + 2 * (j + 1)]? = some (.chan 1 #[] false 0 0 false) := fun j hj => (b1.block _ (by have := L.o6; have := L.ht.lt; omega) (by have := L.o1; have := L.o2; have := L.o3; have := L.o4; have := L.o5; have := L.o6; have := L.o7; have := L.o8; have := L.o9; simp; omega)).trans (L.hC _ hj)
  have c1 : w1.heap[wc]? = some (.chan 1 #[] false 0 0 false) := (b1.block wc (by have := L.o9; omega) (by have := L.o1; have := L.o2; have := L.o3; have := L.o4; have := L.o5; have := L.o6; have := L.o7; have := L.o8; have := L.o9; simp; omega)).trans L.hc
  have k0 : w1.cell? ⟨wb, 0, none⟩ = some (.pointer none) := ww1.cell (i := 0) (by omega)
  have k9 : w1.cell? ⟨wb, 9, none⟩ = some (.int .i64 ni) := ww1.cell (i := 9) (by omega)
  have k10 : w1.cell? ⟨wb, 10, none⟩ = some (.bool (decide ((np : Int) < (ni : Int) + 1))) := ww1.cell (i := 10) (by omega)
  have k2 : w1.cell? ⟨wb, 2, none⟩ = some (.chan (some wc)) := ww1.cell (i := 2) (by omega)
  have k12 : w1.cell? ⟨sb, 12, none⟩ = some (.slice (some ⟨g, 0, none⟩) (ni + 1 : Nat) cap) := by rw [s1.cell (by omega), upd_other _ _ _ _ (by omega), upd_other _ _ _ _ (by omega), upd_other _ _ _ _ (by omega), upd_same]
  have k14 : w1.cell? ⟨sb, 14, none⟩ = some (.slice (some ⟨tb, 0, none⟩) (nw - 1) nw) := by rw [s1.cell (by omega), upd_other _ _ _ _ (by omega), upd_other _ _ _ _ (by omega), upd_same]
  have k23 : w1.cell? ⟨sb, 23, none⟩ = some (.int .i32 (wrap32 (a6 + -1))) := by rw [s1.cell (by omega), upd_other _ _ _ _ (by omega), upd_same]
  have k25 : w1.cell? ⟨sb, 25, none⟩ = some (.int .i32 (wrap32 (a7 + 1))) := by rw [s1.cell (by omega), upd_same]
  have k13 : w1.cell? ⟨sb, 13, none⟩ = some (.slice (some ⟨qb, 0, none⟩) nq nq) := by rw [s1.cell (by omega), upd_other _ _ _ _ (by omega), upd_other _ _ _ _ (by omega), upd_other _ _ _ _ (by omega), upd_other _ _ _ _ (by omega), L.f13]
  have k22 : w1.cell? ⟨sb, 22, none⟩ = some (.int .i32 a5) := by rw [s1.cell (by omega), upd_other _ _ _ _ (by omega), upd_other _ _ _ _ (by omega), upd_other _ _ _ _ (by omega), upd_other _ _ _ _ (by omega), L.f22]
  have ks0 : w1.cell? ⟨sb, 0, none⟩ = some (.slice (some ⟨gp, 0, none⟩) np np) := by rw [s1.cell (by omega), upd_other _ _ _ _ (by omega), upd_other _ _ _ _ (by omega), upd_other _ _ _ _ (by omega), upd_other _ _ _ _ (by omega), L.f0]
  have kg : w1.cell? ⟨g, ni, none⟩ = some (.pointer (some ⟨wb, 0, none⟩)) := by rw [g1.cell (by omega), hgn]
  have kt : w1.cell? ⟨tb, nw - 1, none⟩ = some (.pointer none) := by rw [t1.cell (by omega), shiftF, upd_same]
  have HO : Hid (sb < gp ∧ gp < ib ∧ ib < I0 ∧ I0 + 2 * ni ≤ vb ∧ vb < V0 ∧ V0 + 2 * nw ≤ tb ∧ tb < qb ∧ qb < wc ∧ wc < wb ∧ n0 ≤ sb ∧ V0 < w1.heap.size) := ⟨L.o1, L.o2, L.o3, L.o4, L.o5, L.o6, L.o7, L.o8, L.o9, L.o0, by have := t1.lt; have := L.o6; omega⟩
  have HP : Hid ((∀ j, j < np → ∃ x, pf j = .pointer x) ∧ nq < np ∧ np ≤ 8) := ⟨L.pp, L.m2, L.m3⟩
  have HS : Hid (w1.cell? ⟨sb, 12, none⟩ = some (.slice (some ⟨g, 0, none⟩) (ni + 1 : Nat) cap) ∧ w1.cell? ⟨sb, 13, none⟩ = some (.slice (some ⟨qb, 0, none⟩) nq nq) ∧ w1.cell? ⟨sb, 22, none⟩ = some (.int .i32 a5) ∧ w1.cell? ⟨sb, 14, none⟩ = some (.slice (some ⟨tb, 0, none⟩) (nw - 1) nw) ∧ w1.cell? ⟨sb, 23, none⟩ = some (.int .i32 (wrap32 (a6 + -1))) ∧ w1.cell? ⟨sb, 25, none⟩ = some (.int .i32 (wrap32 (a7 + 1))) ∧ w1.cell? ⟨sb, 0, none⟩ = some (.slice (some ⟨gp, 0, none⟩) np np)) := ⟨k12, k13, k22, k14, k23, k25, ks0⟩
  have HC : Hid (w1.cell? ⟨wb, 2, none⟩ = some (.chan (some wc)) ∧ w1.heap[wc]? = some (.chan 1 #[] false 0 0 false)) := ⟨k2, c1⟩
  have HI : Hid (∀ j, j < ni → w1.cell? ⟨g, j, none⟩ = some (.pointer (some ⟨I0 + 2 * j + 1, 0, none⟩)) ∧ w1.cell? ⟨ib, j, none⟩ = some (.pointer (some ⟨I0 + 2 * j + 1, 0, none⟩)) ∧ w1.cell? ⟨I0 + 2 * j + 1, 9, none⟩ = some (.int .i64 j)) :=
    fun j hj => ⟨by rw [g1.cell (by omega), hgf j hj], i1.cell hj, (I1 j hj).cell (i := 9) (by omega)⟩
  have HQ : Hid (∀ j, j < nq → w1.cell? ⟨qb, j, none⟩ = some (pf j) ∧ w1.cell? ⟨gp, j, none⟩ = some (pf j)) :=
    fun j hj => ⟨q1.cell hj, p1.cell (by have := L.m2; omega)⟩
  have HW : Hid (∀ j, j + 1 < nw → w1.cell? ⟨tb, j, none⟩ = some (.pointer (some ⟨V0 + 2 * (j + 1) + 1, 0, none⟩)) ∧ w1.cell? ⟨vb, j + 1, none⟩ = some (.pointer (some ⟨V0 + 2 * (j + 1) + 1, 0, none⟩)) ∧ w1.cell? ⟨V0 + 2 * (j + 1) + 1, 2, none⟩ = some (.chan (some (V0 + 2 * (j + 1)))) ∧ w1.heap[V0 + 2 * (j + 1)]? = some (.chan 1 #[] false 0 0 false)) :=
    fun j hj => ⟨by rw [t1.cell (by omega), shiftF, upd_other _ _ _ _ (by omega), if_pos (by omega)], v1.cell hj, (V1 _ hj).cell (i := 2) (by omega), C1 j hj⟩
  have HX : Hid (w1.cell? ⟨vb, 0, none⟩ = some (.pointer (some ⟨V0 + 1, 0, none⟩)) ∧ w1.cell? ⟨V0 + 1, 2, none⟩ = some (.chan (some V0)) ∧ w1.heap[V0]? = some (.chan 1 #[.pointer p] false 1 0 false)) := ⟨v1.cell (i := 0) hnw, (V1 0 hnw).cell (i := 2) (by omega), x1⟩
  have HT : Hid (w1.cell? ⟨tb, nw - 1, none⟩ = some (.pointer none)) := kt
  clear L HL hB wlt i1 I1 p1 q1 v1 V1 C1 c1 k13 k22 k14 k23 k25 ks0 k2 s1 ww1 g1 hm hgf hgn b1 hg t1 x1 kt
  have n68 := neq68
  have n83 := neq83
  refine wpN_seq_k fun K hK => ?_
  go_wp2
  refine wpN_seq_k fun K hK => ?_
  go_wp2
  refine wpN_seq_k fun K hK => ?_
  go_wp2
  clear k0 k9 k10 k12 kg n68 n83
  refine wpN_seq_k fun K hK => ?_
  go_wp2
  go_loopw [32] (fun i wr => ∃ k : Nat, k ≤ ni ∧ i = .int .i64 k ∧ Sm w1 wr) (fun i _ => ni - (intOf i).toNat)
  case atStart => exact ⟨0, by omega, rfl, Sm.refl _⟩
  case round =>
    obtain ⟨k, hk, rfl, sm⟩ := hrel
    rename World => wa
    by_cases hkl : k < ni
    · have hkl' : (k : Int) < ni := by omega
      have hkl2 : (k : Int) < (ni : Int) + 1 := by omega
      obtain ⟨t1, t2, t3⟩ := HI.out k hkl
      have t4 := HS.out.1
      rw [← sm.cell] at t1 t2 t3 t4
      have n83 := neq83
      go_upto_region 47 with fail
      go_quiet (fail)
      go_wp2
      go_roundw
      case rel => exact ⟨k + 1, by omega, by go_num, sm.drewN _⟩
      case measure => simp [intOf]; omega
    · have hkl' : ¬ (k : Int) < ni := by omega
      go_wp2
      have q1 := HC.out.1
      have q2 := HC.out.2
      rw [← sm.cell] at q1
      rw [← sm.obj] at q2
      have q3 := lenChan q2
      refine wpN_seq_k fun K hK => ?_
      go_wp2
      clear q1 q2 q3
      refine wpN_seq ?_
      have hnw' : (0 : Int) < (nw : Int) := by omega
      refine wpN_seq_k fun K hK => ?_
      go_wp2
      refine wpN_cond (t := true) (by simp [Act.eval, go_sem]) ?_
      show wpN Yba.prog (Code.seq _ _) _ _ _
      obtain ⟨s12, s13, s22, s14, s23, s25, s0⟩ := HS.out
      have st := HT.out
      rw [← sm.cell] at s12 s13 s22 s14 s23 s25 s0 st
      have e1 : ((nw : Int) - 1).toNat = nw - 1 := by omega
      have e2 : (0 : Int) ≤ (nw : Int) - 1 := by omega
      have e3 : (nw : Int) - 1 < (nw : Int) := by omega
      have e4 : IntKind.i64.wrap ((nw : Int) - 1) = (nw : Int) - 1 := by rw [IntKind.wrap_i64]; omega
      have e5 : ((nw - 1 : Nat) : Int) = (nw : Int) - 1 := by omega
      have n83 := neq83
      refine wpN_seq_k fun K hK => ?_
      go_wp2
      clear s12 s13 s22 s14 s23 s25 s0 st e1 e2 e3 e4 e5 n83
      refine wpN_seq_k fun K hK => ?_
      go_wp2
      go_loopw [33] (fun i wr => ∃ j : Nat, j + 1 ≤ nw ∧ i = .int .i64 ((j : Int) + 1) ∧ Sm w1 wr) (fun i _ => nw - (intOf i).toNat)
      case atStart => exact ⟨0, by omega, rfl, sm⟩
      case round =>
        obtain ⟨j, hj, rfl, sn⟩ := hrel
        rename World => wd
        by_cases hjl : j + 1 < nw
        · have hjl' : (j : Int) + 1 < nw := by omega
          have hjl2 : (j : Int) < ((nw - 1 : Nat) : Int) := by omega
          have hjl3 : j < nw - 1 := by omega
          have e1 : ((j : Int) + 1).toNat = j + 1 := by omega
          obtain ⟨t1, t2, t3, t4⟩ := HW.out j hjl
          have t5 := HS.out.2.2.2.1
          rw [← sn.cell] at t1 t2 t3 t5
          rw [← sn.obj] at t4
          have t6 : ∀ d ty, (Builtin.len_ #[85] ty #[.chan (some (V0 + 2 * (j + 1)))]).run Yba.prog (wd.drewN d) = .ok (.int .i64 0) (wd.drewN d) := fun d ty => lenChan (w := wd.drewN d) t4 ty
          have e4 : IntKind.i64.wrap (j : Int) = (j : Int) := by rw [IntKind.wrap_i64]; omega
          have n83 := neq83
          go_upto_region 57 with fail
          go_quiet (fail)
          go_wp2
          go_roundw
          case rel => exact ⟨j + 1, by omega, by go_num, sn.drewN _⟩
          case measure => simp [intOf]; omega
        · have hjl' : ¬ (j : Int) + 1 < nw := by omega
          go_wp2
          obtain ⟨y1, y2, y3⟩ := HX.out
          rw [← sn.cell] at y1 y2
          rw [← sn.obj] at y3
          have y4 := lenChan y3
          refine wpN_seq_k fun K hK => ?_
          go_wp2
          clear y4
          refine wpN_seq (wpN_of_rest ?_)
          show Rest Yba.prog _ _ [0, 1, 2, 3, 4, 5, 6, 7] _ _
          refine rest_value (.slice (some ⟨vb, 0, none⟩) nw nw) wd rfl rfl (by simp [go_sem, Act.eval]) ?_
          refine rest_value (.pointer (some ⟨vb, 0, none⟩)) wd rfl rfl (by simp [go_sem, Act.eval, Act.put]; intro h; omega) ?_
          refine rest_value (.pointer (some ⟨V0 + 1, 0, none⟩)) wd rfl rfl (by simp [go_sem, Act.eval, Act.put, y1]) ?_
          refine rest_value (.pointer (some ⟨V0 + 1, 0, none⟩)) wd rfl rfl (by simp [go_sem, Act.eval, Act.put]) ?_
          refine rest_value (.pointer (some ⟨V0 + 1, 2, none⟩)) wd rfl rfl (by simp [go_sem, Act.eval, Act.put]) ?_
          refine rest_value (.chan (some V0)) wd rfl rfl (by simp [go_sem, Act.eval, Act.put, y2]) ?_
          refine rest_recv (c := V0) (z := .pointer none) rfl rfl (by simp [go_sem, rcase, Act.eval, Act.put, execOp]) y3 (by simp) ?_
          refine rest_value (.pointer p) (wd.setChan V0 1 #[] false 1 1 false) rfl rfl (by simp [go_sem, Act.eval, Act.put]) ?_
          refine rest_nil ?_
          show wpN Yba.prog (Code.seq _ _) _ _ _
          refine wpN_of_wp ?_
          have on := only_setChan wd V0 1 #[] false 1 1 false
          obtain ⟨s12, s13, s22, s14, s23, s25, s0⟩ := HS.out
          obtain ⟨o1, o2, o3, o4, o5, o6, o7, o8, o9, o10, o11⟩ := HO.out
          have B3 : Below n0 W (wd.setChan V0 1 #[] false 1 1 false) := (sn.below B1).trans ((on.but n0 [] (.inr (by omega))).to n0 (by omega) (by simp))
          rw [← sn.cell] at s13 s22 s23 s25 s0
          have hsV : ¬ sb = V0 := by omega
          rw [← on.cell _ (by exact hsV)] at s13 s22 s23 s25 s0
          have HU : Hid (∀ j, j < nq → (wd.setChan V0 1 #[] false 1 1 false).cell? ⟨qb, j, none⟩ = some (pf j) ∧ (wd.setChan V0 1 #[] false 1 1 false).cell? ⟨gp, j, none⟩ = some (pf j)) :=
            fun j hj => ⟨(on.cell _ (by show qb ≠ V0; omega)).trans ((sn.cell _).trans (HQ.out j hj).1), (on.cell _ (by show gp ≠ V0; omega)).trans ((sn.cell _).trans (HQ.out j hj).2)⟩
          obtain ⟨we, hwe⟩ : ∃ we, we = wd.setChan V0 1 #[] false 1 1 false := ⟨_, rfl⟩
          rw [← hwe] at B3 s13 s22 s23 s25 s0 HU ⊢
          clear hwe on sn sm y1 y2 y3 HS HX HW HC HI HQ HT HO o1 o2 o3 o4 o5 o6 o7 o8 o9 o10 o11 s12 s14 hsV hjl' hjl hkl' hkl hk hj B1 hnw' hnw
          have HT : Hid (we.cell? ⟨sb, 13, none⟩ = some (.slice (some ⟨qb, 0, none⟩) nq nq) ∧ we.cell? ⟨sb, 22, none⟩ = some (.int .i32 a5) ∧ we.cell? ⟨sb, 23, none⟩ = some (.int .i32 (wrap32 (a6 + -1))) ∧ we.cell? ⟨sb, 25, none⟩ = some (.int .i32 (wrap32 (a7 + 1))) ∧ we.cell? ⟨sb, 0, none⟩ = some (.slice (some ⟨gp, 0, none⟩) np np)) := ⟨s13, s22, s23, s25, s0⟩
          clear s22 s23 s25 s0
          have n68 := neq68
          go_upto_region 66 with fail
          clear s13 n68
          have hq8 : nq ≤ 8 := by have := HP.out.2; omega
          go_wp2
          go_loopw [35] (fun i wr => ∃ k : Nat, k ≤ nq ∧ i = .int .i64 k ∧ Sm we wr) (fun i _ => nq - (intOf i).toNat)
          case atStart => exact ⟨0, by omega, rfl, Sm.refl _⟩
          case round =>
            obtain ⟨l, hl, rfl, sm⟩ := hrel
            rename World => wz
            by_cases hll : l < nq
            · have hll' : (l : Int) < nq := by omega
              have hll3 : (l : Int) < (np : Int) := by have := HP.out.2; omega
              obtain ⟨t1, t2⟩ := HU.out l hll
              obtain ⟨x, hx⟩ := HP.out.1 l (by have := HP.out.2; omega)
              rw [hx, ← sm.cell] at t1 t2
              obtain ⟨t3, _, _, _, t4⟩ := HT.out
              rw [← sm.cell] at t3 t4
              have n68 := neq68
              go_upto_region 69 with fail
              go_quiet (fail)
              go_wp2
              go_roundw
              case rel => exact ⟨l + 1, by omega, by go_num, sm.drewN _⟩
              case measure => simp [intOf]; omega
            · have hll' : ¬ (l : Int) < nq := by omega
              obtain ⟨_, s22, s23, s25, _⟩ := HT.out
              rw [← sm.cell] at s22 s23 s25
              have B4 := sm.below B3
              go_wp2_with (first | (go_at_call 15; refine (loadI32_c ⟨sb, 22, none⟩ _ _ s22).mono ?_; rintro e w' ⟨rfl, rfl⟩) | (go_at_call 15; refine (loadI32_c ⟨sb, 23, none⟩ _ _ s23).mono ?_; rintro e w' ⟨rfl, rfl⟩) | (go_at_call 15; refine (loadI32_c ⟨sb, 25, none⟩ _ _ s25).mono ?_; rintro e w' ⟨rfl, rfl⟩))
              exact B4
end Go.Proofs.Ybulkgrw

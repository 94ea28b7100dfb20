/-
  LawS0373BIdle from the call of idleLocked on, where none waits.
-/
import Derived.Test.YbulkgrwTail
namespace Go.Proofs.Ybulkgrw
open Go.RowKit Go.Conc

set_option maxRecDepth 100000 in
set_option maxHeartbeats 4000000 in
theorem tailFree {x19 x22 x23 x26 x29 x37 x38 x39 x40 x41 x42 x43 x44 x45 x46 x47 x48 x49 x50 x51 x52 x53 x54 x55 x56 x57 x58 x59 x60 x61 x62 x63 x64 x65 x66 x67 x68 x69 x70 x71 x72 x73 x74 x75 x76 x77 x78 x79 x80 x81 x82 x83 x84 x85 x86 x87 x88 x89 x90 x91 x92 x93 x94 x95 x96 x97 x98 x99 x100 x101 x102 x103 x104 x105 x106 x107 x108 x109 x110 x111 x112 x113 x114 x115 x116 x117 x118 x119 x120 x121 x122 x123 x124 x125 x126 x127 x128 x129 x130 x131 x132 x133 x134 x135 x136 x137 x138 x139 x140 x141 x142 x143 x144 x145 x146 x147 x148 x149 x150 x151 x152 x153 x154 x155 x156 x157 x158 x159 x160 x161 x162 x163 x164 x165 x166 x167 : Value} (a0 a1 a2 a3 a4 a5 a6 a7 : Int) (n0 : Nat) (W w : World) (sb gp ib vb tb qb wb wc I0 V0 np ni nq : Nat) (fs pf : Nat → Value) (p : Option Addr) (L : Laid n0 w sb gp ib vb tb qb wb wc I0 V0 np ni 0 nq fs pf p a5 a6 a7)
    (hB : Below n0 W w) (R : Ending → World → Prop) (hR : ∀ w', Below n0 W w' → R (.returned (.bool true)) w') :
    wpN Yba.prog tail5 (bodyPost Yba.prog Yba.f5 R) { tmps := #[.int .u8 a0, .int .u8 a1, .int .u8 a2, .int .u8 a3, .int .u8 a4, .int .i32 a5, .int .i32 a6, .int .i32 a7, undef, undef, undef, undef, undef, undef, undef, undef, .bool false, .int .i64 np, .pointer (some ⟨sb, 0, none⟩), x19, .int .i64 ni, .slice (some ⟨ib, 0, none⟩) ni ni, x22, x23, .int .i64 0, .slice (some ⟨vb, 0, none⟩) 0 0, x26, .slice (some ⟨tb, 0, none⟩) 0 0, .int .i64 nq, x29, .pointer p, .pointer (some ⟨wb, 0, none⟩), undef, undef, undef, undef, undef, x37, x38, x39, x40, x41, x42, x43, x44, x45, x46, x47, x48, x49, x50, x51, x52, x53, x54, x55, x56, x57, x58, x59, x60, x61, x62, x63, x64, x65, x66, x67, x68, x69, x70, x71, x72, x73, x74, x75, x76, x77, x78, x79, x80, x81, x82, x83, x84, x85, x86, x87, x88, x89, x90, x91, x92, x93, x94, x95, x96, x97, x98, x99, x100, x101, x102, x103, x104, x105, x106, x107, x108, x109, x110, x111, x112, x113, x114, x115, x116, x117, x118, x119, x120, x121, x122, x123, x124, x125, x126, x127, x128, x129, x130, x131, x132, x133, x134, x135, x136, x137, x138, x139, x140, x141, x142, x143, x144, x145, x146, x147, x148, x149, x150, x151, x152, x153, x154, x155, x156, x157, x158, x159, x160, x161, x162, x163, x164, x165, x166, x167, undef, undef, undef, undef, undef, undef, undef, undef, undef, undef, undef, undef, undef, undef, undef, undef, undef, undef, undef, undef, undef, undef, undef, undef, undef, undef, undef, undef, undef, undef, undef, undef, undef, undef, undef, undef, undef, undef, undef, undef, undef, undef, undef, undef, undef, undef, undef, undef, undef, undef, undef, undef, undef, undef, undef, undef, undef, undef, undef, undef, undef, undef, undef, undef, undef, undef, undef, undef, undef, undef, undef, undef, undef, undef, undef, undef, undef, undef, undef, undef, undef, undef, undef, undef, undef, undef, undef, undef, undef, undef, undef, undef, undef, undef, undef, undef, undef, undef, undef, undef, undef, undef, undef, undef, undef, undef, undef, undef, undef, undef, undef, undef, undef, undef, undef, undef, undef, undef, undef, undef, undef, undef, undef, undef, undef, undef, undef, undef, undef, undef, undef, undef, undef, undef, undef, undef, undef, undef, undef, undef, undef, undef, undef, undef, undef, undef, undef, undef, undef, undef, undef, undef, undef, undef, undef, undef, undef, undef, undef, undef, undef, undef, undef, undef, undef, undef, undef, undef, undef, undef, undef, undef, undef, undef, undef, undef, undef, undef, undef, undef, undef, undef, undef, undef, undef, undef, undef, undef, undef, undef, undef, undef, undef, undef, undef, undef, undef, undef, undef, undef, undef, undef, undef, undef, undef, undef, undef, undef, undef, undef, undef, undef, undef, undef, undef, undef, undef, undef, undef, undef, undef, undef, undef, undef, undef, undef, undef, undef, undef, undef, undef, undef, undef, undef, undef, undef, undef, undef, undef, undef, undef, undef, undef, undef, undef, undef, undef, undef, undef, undef, undef, undef, undef, undef, undef, undef, undef, undef, undef, undef, undef, undef], defers := [] } w := by
  have HL : Hid (Laid n0 w sb gp ib vb tb qb wb wc I0 V0 np ni 0 nq fs pf p a5 a6 a7) := L
  refine wpN_of_wp ?_
  show Code.wp Yba.prog (Code.seq _ _) _ _ _
  have hcall := idleFree_c sb wb ib gp tb qb ni np nq fs _ _ pf p a5 w L.hs L.hw L.hi L.hq L.f0 L.f12 L.f13 L.f14 L.f22 rfl L.m0 (by have := L.m2; have := L.m3; omega)
  clear L
  go_upto_region 38 with (go_at_call 14; refine hcall.mono ?_; clear hcall; rintro e w1 ⟨rfl, g, cap, m, gf, h, cap', m', hf, hg, hh, s1, ww1, g1, hm, hgf, hgn, h1, hm', hhf, hhn, b1⟩)
  have L := HL.out
  have m0 := L.m0
  have wlt := L.hw.lt
  have slt := L.hs.lt
  have B1 : Below n0 W w1 := hB.trans (b1.to n0 (by have := L.o0; omega) (fun k hk => by have := L.o0; have := L.o1; have := L.o2; have := L.o3; have := L.o4; have := L.o5; have := L.o6; have := L.o7; have := L.o8; have := L.o9; simp at hk; omega))
  have i1 : Blk w1 ib 83 ni (fun j => .pointer (some ⟨I0 + 2 * j + 1, 0, none⟩)) := L.hi.but b1 L.hi.lt (by simp; exact ⟨L.hi.apart L.hs (by decide), L.hi.apart L.hw (by decide)⟩)
  have I1 : ∀ j, j < ni → Blk w1 (I0 + 2 * j + 1) 91 12 (litF (wkCells (.pointer none) (I0 + 2 * j) j false)) := fun j hj => (L.hI j hj).but b1 (L.hI j hj).lt (by have := L.o1; have := L.o2; have := L.o3; have := L.o4; have := L.o5; have := L.o6; have := L.o7; have := L.o8; have := L.o9; simp; omega)
  have p1 : Blk w1 gp 68 np pf := L.hp.but b1 L.hp.lt (by simp; exact ⟨L.hp.apart L.hs (by decide), L.hp.apart L.hw (by decide)⟩)
  have c1 : w1.heap[wc]? = some (.chan 1 #[] false 0 0 false) := (b1.block wc (by have := L.o9; omega) (by have := L.o1; have := L.o2; have := L.o3; have := L.o4; have := L.o5; have := L.o6; have := L.o7; have := L.o8; have := L.o9; simp; omega)).trans L.hc
  have k0 : w1.cell? ⟨wb, 0, none⟩ = some (.pointer none) := ww1.cell (i := 0) (by omega)
  have k9 : w1.cell? ⟨wb, 9, none⟩ = some (.int .i64 ni) := ww1.cell (i := 9) (by omega)
  have k10 : w1.cell? ⟨wb, 10, none⟩ = some (.bool (decide ((np : Int) < (ni : Int) + 1))) := ww1.cell (i := 10) (by omega)
  have k2 : w1.cell? ⟨wb, 2, none⟩ = some (.chan (some wc)) := ww1.cell (i := 2) (by omega)
  have k12 : w1.cell? ⟨sb, 12, none⟩ = some (.slice (some ⟨g, 0, none⟩) (ni + 1 : Nat) cap) := by rw [s1.cell (by omega), upd_other _ _ _ _ (by omega), upd_other _ _ _ _ (by omega), upd_same]
  have k13 : w1.cell? ⟨sb, 13, none⟩ = some (.slice (some ⟨h, 0, none⟩) (nq + 1 : Nat) cap') := by rw [s1.cell (by omega), upd_other _ _ _ _ (by omega), upd_same]
  have k22 : w1.cell? ⟨sb, 22, none⟩ = some (.int .i32 (wrap32 (a5 + 1))) := by rw [s1.cell (by omega), upd_same]
  have k14 : w1.cell? ⟨sb, 14, none⟩ = some (.slice (some ⟨tb, 0, none⟩) 0 0) := by rw [s1.cell (by omega), upd_other _ _ _ _ (by omega), upd_other _ _ _ _ (by omega), upd_other _ _ _ _ (by omega), L.f14]
  have k23 : w1.cell? ⟨sb, 23, none⟩ = some (.int .i32 a6) := by rw [s1.cell (by omega), upd_other _ _ _ _ (by omega), upd_other _ _ _ _ (by omega), upd_other _ _ _ _ (by omega), L.f23]
  have k25 : w1.cell? ⟨sb, 25, none⟩ = some (.int .i32 a7) := by rw [s1.cell (by omega), upd_other _ _ _ _ (by omega), upd_other _ _ _ _ (by omega), upd_other _ _ _ _ (by omega), L.f25]
  have ks0 : w1.cell? ⟨sb, 0, none⟩ = some (.slice (some ⟨gp, 0, none⟩) np np) := by rw [s1.cell (by omega), upd_other _ _ _ _ (by omega), upd_other _ _ _ _ (by omega), upd_other _ _ _ _ (by omega), L.f0]
  have kg : w1.cell? ⟨g, ni, none⟩ = some (.pointer (some ⟨wb, 0, none⟩)) := by rw [g1.cell (by omega), hgn]
  have HP : Hid ((∀ j, j < np → ∃ x, pf j = .pointer x) ∧ nq < np ∧ np ≤ 8) := ⟨L.pp, L.m2, L.m3⟩
  have HS : Hid (w1.cell? ⟨sb, 12, none⟩ = some (.slice (some ⟨g, 0, none⟩) (ni + 1 : Nat) cap) ∧ w1.cell? ⟨sb, 13, none⟩ = some (.slice (some ⟨h, 0, none⟩) (nq + 1 : Nat) cap') ∧ w1.cell? ⟨sb, 22, none⟩ = some (.int .i32 (wrap32 (a5 + 1))) ∧ w1.cell? ⟨sb, 14, none⟩ = some (.slice (some ⟨tb, 0, none⟩) 0 0) ∧ w1.cell? ⟨sb, 23, none⟩ = some (.int .i32 a6) ∧ w1.cell? ⟨sb, 25, none⟩ = some (.int .i32 a7) ∧ w1.cell? ⟨sb, 0, none⟩ = some (.slice (some ⟨gp, 0, none⟩) np np)) := ⟨k12, k13, k22, k14, k23, k25, ks0⟩
  have HC : Hid (w1.cell? ⟨wb, 2, none⟩ = some (.chan (some wc)) ∧ w1.heap[wc]? = some (.chan 1 #[] false 0 0 false)) := ⟨k2, c1⟩
  have HI : Hid (∀ j, j < ni → w1.cell? ⟨g, j, none⟩ = some (.pointer (some ⟨I0 + 2 * j + 1, 0, none⟩)) ∧ w1.cell? ⟨ib, j, none⟩ = some (.pointer (some ⟨I0 + 2 * j + 1, 0, none⟩)) ∧ w1.cell? ⟨I0 + 2 * j + 1, 9, none⟩ = some (.int .i64 j)) :=
    fun j hj => ⟨by rw [g1.cell (by omega), hgf j hj], i1.cell hj, (I1 j hj).cell (i := 9) (by omega)⟩
  have HQ : Hid ((∀ j, j < nq → w1.cell? ⟨h, j, none⟩ = some (pf j) ∧ w1.cell? ⟨gp, j, none⟩ = some (pf j)) ∧ w1.cell? ⟨h, nq, none⟩ = some (.pointer p)) :=
    ⟨fun j hj => ⟨by rw [h1.cell (by omega), hhf j hj], p1.cell (by have := L.m2; omega)⟩, by rw [h1.cell (by omega), hhn]⟩
  clear L HL hB wlt slt i1 I1 p1 c1 k13 k22 k14 k23 k25 ks0 k2 s1 ww1 g1 hm hgf hgn h1 hm' hhf hhn b1 hg hh
  have n68 := neq68
  have n83 := neq83
  go_upto_region 44 with fail
  clear k0 k9 k10 k12 kg n68 n83
  go_wp2
  go_loopw [32] (fun i wr => ∃ k : Nat, k ≤ ni ∧ i = .int .i64 k ∧ Sm w1 wr) (fun i _ => ni - (intOf i).toNat)
  case atStart => exact ⟨0, by omega, rfl, Sm.refl _⟩
  case round =>
    obtain ⟨k, hk, rfl, sm⟩ := hrel
    rename World => wa
    by_cases hkl : k < ni
    · have hkl' : (k : Int) < ni := by omega
      have hkl2 : (k : Int) < (ni : Int) + 1 := by omega
      obtain ⟨t1, t2, t3⟩ := HI.out k hkl
      have t4 := HS.out.1
      rw [← sm.cell] at t1 t2 t3 t4
      have n83 := neq83
      go_upto_region 47 with fail
      go_quiet (fail)
      go_wp2
      go_roundw
      case rel => exact ⟨k + 1, by omega, by go_num, sm.drewN _⟩
      case measure => simp [intOf]; omega
    · have hkl' : ¬ (k : Int) < ni := by omega
      have q1 := HC.out.1
      have q2 := HC.out.2
      rw [← sm.cell] at q1
      rw [← sm.obj] at q2
      have q3 := lenChan q2
      go_upto_region 51 with fail
      clear q1 q2 q3
      obtain ⟨s12, s13, s22, s14, s23, s25, s0⟩ := HS.out
      have sq := HQ.out.2
      rw [← sm.cell] at s12 s13 s22 s14 s23 s25 s0 sq
      have hq8 : nq ≤ 8 := by have := HP.out.2; omega
      have n68 := neq68
      go_upto_region 76 with fail
      clear sq n68 s14 s12
      have HT : Hid (wa.cell? ⟨sb, 13, none⟩ = some (.slice (some ⟨h, 0, none⟩) (nq + 1 : Nat) cap') ∧ wa.cell? ⟨sb, 22, none⟩ = some (.int .i32 (wrap32 (a5 + 1))) ∧ wa.cell? ⟨sb, 23, none⟩ = some (.int .i32 a6) ∧ wa.cell? ⟨sb, 25, none⟩ = some (.int .i32 a7) ∧ wa.cell? ⟨sb, 0, none⟩ = some (.slice (some ⟨gp, 0, none⟩) np np)) := ⟨s13, s22, s23, s25, s0⟩
      have HU : Hid (∀ j, j < nq → wa.cell? ⟨h, j, none⟩ = some (pf j) ∧ wa.cell? ⟨gp, j, none⟩ = some (pf j)) := fun j hj => ⟨(sm.cell _).trans (HQ.out.1 j hj).1, (sm.cell _).trans (HQ.out.1 j hj).2⟩
      have B2 := sm.below B1
      clear s13 s22 s23 s25 s0 HS HQ HI HC sm B1 hkl' hkl hk
      go_wp2
      go_loopw [36] (fun i wr => ∃ k : Nat, k ≤ nq ∧ i = .int .i64 k ∧ Sm wa wr) (fun i _ => nq - (intOf i).toNat)
      case atStart => exact ⟨0, by omega, rfl, Sm.refl _⟩
      case round =>
        obtain ⟨l, hl, rfl, sm⟩ := hrel
        rename World => wz
        by_cases hll : l < nq
        · have hll' : (l : Int) < nq := by omega
          have hll2 : (l : Int) < (nq : Int) + 1 := by omega
          have hll3 : (l : Int) < (np : Int) := by have := HP.out.2; omega
          obtain ⟨t1, t2⟩ := HU.out l hll
          obtain ⟨x, hx⟩ := HP.out.1 l (by have := HP.out.2; omega)
          rw [hx, ← sm.cell] at t1 t2
          obtain ⟨t3, _, _, _, t4⟩ := HT.out
          rw [← sm.cell] at t3 t4
          have n68 := neq68
          go_upto_region 79 with fail
          go_quiet (fail)
          go_wp2
          go_roundw
          case rel => exact ⟨l + 1, by omega, by go_num, sm.drewN _⟩
          case measure => simp [intOf]; omega
        · have hll' : ¬ (l : Int) < nq := by omega
          obtain ⟨_, s22, s23, s25, _⟩ := HT.out
          rw [← sm.cell] at s22 s23 s25
          have B3 := sm.below B2
          go_wp2_with (first | (go_at_call 15; refine (loadI32_c ⟨sb, 22, none⟩ _ _ s22).mono ?_; rintro e w' ⟨rfl, rfl⟩) | (go_at_call 15; refine (loadI32_c ⟨sb, 23, none⟩ _ _ s23).mono ?_; rintro e w' ⟨rfl, rfl⟩) | (go_at_call 15; refine (loadI32_c ⟨sb, 25, none⟩ _ _ s25).mono ?_; rintro e w' ⟨rfl, rfl⟩))
          exact B3
end Go.Proofs.Ybulkgrw

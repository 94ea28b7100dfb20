/-
  LawS0373AExact, walked.
-/
import Derived.Test.YbulkgrwStats
namespace Go.Proofs.Ybulkgrw
open Go.RowKit

theorem InQ.keep {w w' : World} {a0 : Option Addr} {len : Nat} {q : Nat → PQ} (h : InQ w a0 len q) (hb : Below w.heap.size w w') : InQ w' a0 len q := fun i hi => by
  obtain ⟨b, o, e, hlt, d0, d1, d2, d3, d4, d5, d6⟩ := h i hi
  exact ⟨b, o, e, Nat.lt_of_lt_of_le hlt hb.size, (hb.cell (p := ⟨b, o + i * 7, none⟩) hlt).trans d0, (hb.cell (p := ⟨b, o + i * 7 + 1, none⟩) hlt).trans d1, (hb.cell (p := ⟨b, o + i * 7 + 2, none⟩) hlt).trans d2, (hb.cell (p := ⟨b, o + i * 7 + 3, none⟩) hlt).trans d3, (hb.cell (p := ⟨b, o + i * 7 + 4, none⟩) hlt).trans d4, (hb.cell (p := ⟨b, o + i * 7 + 5, none⟩) hlt).trans d5, (hb.cell (p := ⟨b, o + i * 7 + 6, none⟩) hlt).trans d6⟩

/-- While the law reads: the struct in sp, the three rows. -/
structure EX (w wr : World) (sp gl gr gx len : Nat) (sF lf rf xf : Nat → Value) : Prop where
  bel : Below w.heap.size w wr
  hs : Blk wr sp 32 14 sF
  hl : Blk wr gl 3 len lf
  hr : Blk wr gr 4 len rf
  hx : Blk wr gx 23 len xf
theorem EX.alloc {w wr : World} {sp gl gr gx len : Nat} {sF lf rf xf : Nat → Value} (h : EX w wr sp gl gr gx len sF lf rf xf) (o : Obj) : EX w (wr.alloc o) sp gl gr gx len sF lf rf xf :=
  ⟨h.bel.alloc h.bel.size o, h.hs.alloc o, h.hl.alloc o, h.hr.alloc o, h.hx.alloc o⟩
theorem EX.drewN {w wr : World} {sp gl gr gx len : Nat} {sF lf rf xf : Nat → Value} (h : EX w wr sp gl gr gx len sF lf rf xf) (n : Nat) : EX w (wr.drewN n) sp gl gr gx len sF lf rf xf :=
  ⟨⟨h.bel.os, h.bel.tape, h.bel.output, h.bel.size, h.bel.block⟩, h.hs, h.hl, h.hr, h.hx⟩

set_option maxRecDepth 100000 in
theorem aexact_far (a0 : Option Addr) (len cap : Nat) (c0 c1 c2 c3 c4 c5 c6 c7 : Int) (w : World) (hl : 1024 < len) :
    Calls Yba.prog 3 #[.slice a0 len cap, .agg #[.int .u64 c0, .int .u64 c1, .int .u64 c2, .int .u64 c3, .int .i32 c4, .int .i32 c5, .int .i64 c6, .int .u8 c7]] w fun e w' => e = .returned (.bool true) ∧ Below w.heap.size w w' := by
  have hl' : (1024 : Int) < len := by omega
  have hb : Below w.heap.size w (w.alloc (.cells #[.int .u64 c0, .int .u64 c1, .int .u64 c2, .int .u64 c3, .int .i32 c4, .int .i32 c5, .int .i64 c6, .int .u8 c7] 25)) := (Below.refl _ w).alloc (Nat.le_refl _) _
  go_enter Yba.func3, Yba.ntmps3
  go_wp2
  go_ret
  exact ⟨rfl, hb⟩

set_option maxRecDepth 100000 in
set_option maxHeartbeats 2000000 in
theorem aexact_near (a0 : Option Addr) (len cap : Nat) (q : Nat → PQ) (c : CQ) (w : World) (hin : InQ w a0 len q) (hl : len ≤ 1024) (h7 : c.id ≤ 255) (hsp : -2147483648 ≤ c.sp ∧ c.sp ≤ 2147483647) (hth : -2147483648 ≤ c.th ∧ c.th ≤ 2147483647) :
    Calls Yba.prog 3 #[.slice a0 len cap, .agg #[.int .u64 c.ho, .int .u64 c.pa, .int .u64 c.pk, .int .u64 c.re, .int .i32 c.sp, .int .i32 c.th, .int .i64 c.sh, .int .u8 c.id]] w fun e w' => e = .returned (.bool true) ∧ Below w.heap.size w w' := by
  have hl' : (len : Int) ≤ 1024 := by omega
  have hB1 : Below w.heap.size w (w.alloc (.cells #[.int .u64 c.ho, .int .u64 c.pa, .int .u64 c.pk, .int .u64 c.re, .int .i32 c.sp, .int .i32 c.th, .int .i64 c.sh, .int .u8 c.id] 25)) := (Below.refl _ w).alloc (Nat.le_refl _) _
  have hcb := Blk.new w #[.int .u64 c.ho, .int .u64 c.pa, .int .u64 c.pk, .int .u64 c.re, .int .i32 c.sp, .int .i32 c.th, .int .i64 c.sh, .int .u8 c.id] 25 (n := 8) rfl rfl
  have hin1 := hin.keep hB1
  go_enter Yba.func3, Yba.ntmps3
  go_upto_region 3 with fail
  obtain ⟨w1, hw1⟩ : ∃ w1, w1 = w.alloc (.cells #[.int .u64 c.ho, .int .u64 c.pa, .int .u64 c.pk, .int .u64 c.re, .int .i32 c.sp, .int .i32 c.th, .int .i64 c.sh, .int .u8 c.id] 25) := ⟨_, rfl⟩
  rw [← hw1] at hB1 hcb hin1 ⊢
  have hw1s : w1.heap.size = w.heap.size + 1 := by rw [hw1]; simp
  clear hw1
  have y0 := hcb.cell (i := 0) (by omega)
  have y1 := hcb.cell (i := 1) (by omega)
  have y2 := hcb.cell (i := 2) (by omega)
  have y3 := hcb.cell (i := 3) (by omega)
  have y4 := hcb.cell (i := 4) (by omega)
  have y5 := hcb.cell (i := 5) (by omega)
  have y6 := hcb.cell (i := 6) (by omega)
  have y7 := hcb.cell (i := 7) (by omega)
  have HY : Hid (w1.cell? ⟨w.heap.size, 0, none⟩ = some (.int .u64 c.ho) ∧ w1.cell? ⟨w.heap.size, 1, none⟩ = some (.int .u64 c.pa) ∧ w1.cell? ⟨w.heap.size, 2, none⟩ = some (.int .u64 c.pk) ∧ w1.cell? ⟨w.heap.size, 3, none⟩ = some (.int .u64 c.re) ∧ w1.cell? ⟨w.heap.size, 4, none⟩ = some (.int .i32 c.sp) ∧ w1.cell? ⟨w.heap.size, 5, none⟩ = some (.int .i32 c.th) ∧ w1.cell? ⟨w.heap.size, 6, none⟩ = some (.int .i64 c.sh) ∧ w1.cell? ⟨w.heap.size, 7, none⟩ = some (.int .u8 c.id)) := ⟨y0, y1, y2, y3, y4, y5, y6, y7⟩
  clear y0 y1 y2 y3 y4 y5 y6 y7
  obtain ⟨y0, y1, y2, y3, y4, y5, y6, y7⟩ := HY.out
  go_upto_region 4 with (go_at_call 6; refine (build_c a0 len cap q c.ho c.pa c.pk c.re c.sp c.th c.sh c.id w1 hin1 hl h7).mono ?_; rintro e w2 ⟨sb, gp, ib, B1, fs, rfl, hsb, hJ, hF⟩)
  clear y0 y1 y2 y3 y4 y5 y6 y7
  have hst := stats_c w1 w2 gp sb ib B1 len fs q c hJ hl hsp hth hF
  go_upto_region 5 with (go_at_call 7; refine hst.mono ?_; rintro e w3 ⟨gl, gr, gx, lf, rf, xf, rfl, hbel, hsz, hos, htp, hout, bl, br, bx, hrow⟩)
  have HB : Below w.heap.size w w3 := by
    refine ⟨hos.trans (hJ.bel.os.trans hB1.os), htp.trans (hJ.bel.tape.trans hB1.tape), hout.trans (hJ.bel.output.trans hB1.output), Nat.le_trans hB1.size (Nat.le_trans hJ.bel.size hsz), fun k hk => ?_⟩
    have h1 := hJ.bel.size
    rw [hbel k (by omega) (by omega), hJ.bel.block k (by omega), hB1.block k hk]
  have hcb3 : Blk w3 w.heap.size 25 8 _ := (hcb.keep hJ.bel (by omega)).block (hbel w.heap.size (by have := hJ.bel.size; omega) (by omega))
  have ex0 : EX w (w3.alloc (.cells #[.int .i64 len, .int .i64 c.sh, .slice (some ⟨gl, 0, none⟩) len len, .slice (some ⟨gr, 0, none⟩) len len, .slice (some ⟨gx, 0, none⟩) len len, .int .u64 (sumU (fun j => (q j).steals) len), .int .u64 (sumU (fun j => (q j).stolen) len), .int .u64 c.ho, .int .u64 c.re, .int .u64 c.pa, .int .u64 c.pk, .int .i64 c.sp, .int .i64 c.th, .int .i64 c.id] 32)) w3.heap.size gl gr gx len _ lf rf xf := ⟨HB.alloc HB.size _, Blk.new w3 #[.int .i64 len, .int .i64 c.sh, .slice (some ⟨gl, 0, none⟩) len len, .slice (some ⟨gr, 0, none⟩) len len, .slice (some ⟨gx, 0, none⟩) len len, .int .u64 (sumU (fun j => (q j).steals) len), .int .u64 (sumU (fun j => (q j).stolen) len), .int .u64 c.ho, .int .u64 c.re, .int .u64 c.pa, .int .u64 c.pk, .int .i64 c.sp, .int .i64 c.th, .int .i64 c.id] 32 rfl rfl, bl.alloc _, br.alloc _, bx.alloc _⟩
  have hcb4 := hcb3.alloc (.cells #[.int .i64 len, .int .i64 c.sh, .slice (some ⟨gl, 0, none⟩) len len, .slice (some ⟨gr, 0, none⟩) len len, .slice (some ⟨gx, 0, none⟩) len len, .int .u64 (sumU (fun j => (q j).steals) len), .int .u64 (sumU (fun j => (q j).stolen) len), .int .u64 c.ho, .int .u64 c.re, .int .u64 c.pa, .int .u64 c.pk, .int .i64 c.sp, .int .i64 c.th, .int .i64 c.id] 32)
  have HQ : Hid (InQ w a0 len q) := hin
  have HRW : Hid (∀ j, j < len → lf j = .int .i64 (loc (q j).head (q j).tail) ∧ rf j = .bool (q j).next ∧ xf j = .int .u64 (ranOf (q j).hold (q j).resumed)) := hrow
  clear hst hbel hsz hos htp hout bl br bx hJ hF hsb hB1 hin1 hcb hcb3 HY hin hrow
  obtain ⟨w4, hw4⟩ : ∃ w4, w4 = w3.alloc (.cells #[.int .i64 len, .int .i64 c.sh, .slice (some ⟨gl, 0, none⟩) len len, .slice (some ⟨gr, 0, none⟩) len len, .slice (some ⟨gx, 0, none⟩) len len, .int .u64 (sumU (fun j => (q j).steals) len), .int .u64 (sumU (fun j => (q j).stolen) len), .int .u64 c.ho, .int .u64 c.re, .int .u64 c.pa, .int .u64 c.pk, .int .i64 c.sp, .int .i64 c.th, .int .i64 c.id] 32) := ⟨_, rfl⟩
  rw [← hw4] at ex0 hcb4 ⊢
  clear hw4
  obtain ⟨sp, hspb⟩ : ∃ sp, sp = w3.heap.size := ⟨_, rfl⟩
  rw [← hspb] at ex0 ⊢
  clear hspb HB
  obtain ⟨S5, hS5⟩ : ∃ S5, S5 = sumU (fun j => (q j).steals) len := ⟨_, rfl⟩
  obtain ⟨S6, hS6⟩ : ∃ S6, S6 = sumU (fun j => (q j).stolen) len := ⟨_, rfl⟩
  rw [← hS5, ← hS6] at ex0 ⊢
  have HS : Hid (S5 = sumU (fun j => (q j).steals) len ∧ S6 = sumU (fun j => (q j).stolen) len) := ⟨hS5, hS6⟩
  clear hS5 hS6
  obtain ⟨sF, hsF⟩ : ∃ sF, sF = litF #[Value.int .i64 len, .int .i64 c.sh, .slice (some ⟨gl, 0, none⟩) len len, .slice (some ⟨gr, 0, none⟩) len len, .slice (some ⟨gx, 0, none⟩) len len, .int .u64 S5, .int .u64 S6, .int .u64 c.ho, .int .u64 c.re, .int .u64 c.pa, .int .u64 c.pk, .int .i64 c.sp, .int .i64 c.th, .int .i64 c.id] := ⟨_, rfl⟩
  rw [← hsF] at ex0
  have HV : Hid (sF 0 = (.int .i64 len) ∧ sF 1 = (.int .i64 c.sh) ∧ sF 2 = (.slice (some ⟨gl, 0, none⟩) len len) ∧ sF 3 = (.slice (some ⟨gr, 0, none⟩) len len) ∧ sF 4 = (.slice (some ⟨gx, 0, none⟩) len len) ∧ sF 5 = (.int .u64 S5) ∧ sF 6 = (.int .u64 S6) ∧ sF 7 = (.int .u64 c.ho) ∧ sF 8 = (.int .u64 c.re) ∧ sF 9 = (.int .u64 c.pa) ∧ sF 10 = (.int .u64 c.pk) ∧ sF 11 = (.int .i64 c.sp) ∧ sF 12 = (.int .i64 c.th) ∧ sF 13 = (.int .i64 c.id)) := by
    rw [hsF]
    exact ⟨rfl, rfl, rfl, rfl, rfl, rfl, rfl, rfl, rfl, rfl, rfl, rfl, rfl, rfl⟩
  clear hsF
  obtain ⟨m0, m1, m2, m3, m4, m5, m6, m7, m8, m9, m10, m11, m12, m13⟩ := HV.out
  have z0 : w4.cell? ⟨sp, 0, none⟩ = some (.int .i64 len) := by rw [ex0.hs.cell (by omega), m0]
  have z1 : w4.cell? ⟨sp, 1, none⟩ = some (.int .i64 c.sh) := by rw [ex0.hs.cell (by omega), m1]
  have z2 : w4.cell? ⟨sp, 2, none⟩ = some (.slice (some ⟨gl, 0, none⟩) len len) := by rw [ex0.hs.cell (by omega), m2]
  have z3 : w4.cell? ⟨sp, 3, none⟩ = some (.slice (some ⟨gr, 0, none⟩) len len) := by rw [ex0.hs.cell (by omega), m3]
  have z4 : w4.cell? ⟨sp, 4, none⟩ = some (.slice (some ⟨gx, 0, none⟩) len len) := by rw [ex0.hs.cell (by omega), m4]
  have z5 : w4.cell? ⟨sp, 5, none⟩ = some (.int .u64 S5) := by rw [ex0.hs.cell (by omega), m5]
  have z6 : w4.cell? ⟨sp, 6, none⟩ = some (.int .u64 S6) := by rw [ex0.hs.cell (by omega), m6]
  have z7 : w4.cell? ⟨sp, 7, none⟩ = some (.int .u64 c.ho) := by rw [ex0.hs.cell (by omega), m7]
  have z8 : w4.cell? ⟨sp, 8, none⟩ = some (.int .u64 c.re) := by rw [ex0.hs.cell (by omega), m8]
  have z9 : w4.cell? ⟨sp, 9, none⟩ = some (.int .u64 c.pa) := by rw [ex0.hs.cell (by omega), m9]
  have z10 : w4.cell? ⟨sp, 10, none⟩ = some (.int .u64 c.pk) := by rw [ex0.hs.cell (by omega), m10]
  have z11 : w4.cell? ⟨sp, 11, none⟩ = some (.int .i64 c.sp) := by rw [ex0.hs.cell (by omega), m11]
  have z12 : w4.cell? ⟨sp, 12, none⟩ = some (.int .i64 c.th) := by rw [ex0.hs.cell (by omega), m12]
  have z13 : w4.cell? ⟨sp, 13, none⟩ = some (.int .i64 c.id) := by rw [ex0.hs.cell (by omega), m13]
  have y0 : w4.cell? ⟨w.heap.size, 0, none⟩ = some (.int .u64 c.ho) := hcb4.cell (i := 0) (by omega)
  have y1 : w4.cell? ⟨w.heap.size, 1, none⟩ = some (.int .u64 c.pa) := hcb4.cell (i := 1) (by omega)
  have y2 : w4.cell? ⟨w.heap.size, 2, none⟩ = some (.int .u64 c.pk) := hcb4.cell (i := 2) (by omega)
  have y3 : w4.cell? ⟨w.heap.size, 3, none⟩ = some (.int .u64 c.re) := hcb4.cell (i := 3) (by omega)
  have y4 : w4.cell? ⟨w.heap.size, 4, none⟩ = some (.int .i32 c.sp) := hcb4.cell (i := 4) (by omega)
  have y5 : w4.cell? ⟨w.heap.size, 5, none⟩ = some (.int .i32 c.th) := hcb4.cell (i := 5) (by omega)
  have y6 : w4.cell? ⟨w.heap.size, 6, none⟩ = some (.int .i64 c.sh) := hcb4.cell (i := 6) (by omega)
  have y7 : w4.cell? ⟨w.heap.size, 7, none⟩ = some (.int .u8 c.id) := hcb4.cell (i := 7) (by omega)
  clear m0 m1 m2 m3 m4 m5 m6 m7 m8 m9 m10 m11 m12 m13 hcb4
  have ws := wrap_small hsp.1 hsp.2
  have wt := wrap_small hth.1 hth.2
  go_upto_region 12 with fail
  clear z0 z1 z2 z3 z4 z5 z6 z7 z8 z9 z10 z11 z12 z13 y0 y1 y2 y3 y4 y5 y6 y7 ws wt
  go_wp2
  go_loopw [8, 9, 10] (fun s t i wr => ∃ k : Nat, k ≤ len ∧ i = .int .i64 k ∧ s = .int .u64 (sumU (fun j => (q j).steals) k) ∧ t = .int .u64 (sumU (fun j => (q j).stolen) k) ∧ EX w wr sp gl gr gx len sF lf rf xf) (fun _ _ i _ => len - (intOf i).toNat)
  case atStart => exact ⟨0, by omega, rfl, rfl, rfl, ex0⟩
  case round =>
    obtain ⟨k, hk, rfl, rfl, rfl, ex⟩ := hrel
    rename World => wa
    clear ex0
    obtain ⟨m0, m1, m2, m3, m4, m5, m6, m7, m8, m9, m10, m11, m12, m13⟩ := HV.out
    by_cases hkl : k < len
    · have hkl' : (k : Int) < len := by omega
      obtain ⟨pb, po, rfl, hpl, d0, d1, d2, d3, d4, d5, d6⟩ := HQ.out k hkl
      have r0 := (ex.bel.cell (p := ⟨pb, po + k * 7, none⟩) hpl).trans d0
      have r1 := (ex.bel.cell (p := ⟨pb, po + k * 7 + 1, none⟩) hpl).trans d1
      have r2 := (ex.bel.cell (p := ⟨pb, po + k * 7 + 2, none⟩) hpl).trans d2
      have r3 := (ex.bel.cell (p := ⟨pb, po + k * 7 + 3, none⟩) hpl).trans d3
      have r4 := (ex.bel.cell (p := ⟨pb, po + k * 7 + 4, none⟩) hpl).trans d4
      have r5 := (ex.bel.cell (p := ⟨pb, po + k * 7 + 5, none⟩) hpl).trans d5
      have r6 := (ex.bel.cell (p := ⟨pb, po + k * 7 + 6, none⟩) hpl).trans d6
      obtain ⟨v1, v2, v3⟩ := HRW.out k hkl
      have z2 : wa.cell? ⟨sp, 2, none⟩ = some (.slice (some ⟨gl, 0, none⟩) len len) := by rw [ex.hs.cell (by omega), m2]
      have z3 : wa.cell? ⟨sp, 3, none⟩ = some (.slice (some ⟨gr, 0, none⟩) len len) := by rw [ex.hs.cell (by omega), m3]
      have z4 : wa.cell? ⟨sp, 4, none⟩ = some (.slice (some ⟨gx, 0, none⟩) len len) := by rw [ex.hs.cell (by omega), m4]
      have l1 : wa.cell? ⟨gl, k, none⟩ = some (.int .i64 (loc (q k).head (q k).tail)) := by rw [ex.hl.cell hkl, v1]
      have l2 : wa.cell? ⟨gr, k, none⟩ = some (.bool (q k).next) := by rw [ex.hr.cell hkl, v2]
      have l3 : wa.cell? ⟨gx, k, none⟩ = some (.int .u64 (IntKind.u64.wrap (IntKind.u64.wrap ((IntKind.u64.wrap ((q k).hold + 3)).tdiv 4) - (q k).resumed))) := by rw [ex.hx.cell hkl, v3]; rfl
      have b1 := ex.hs.lt
      have b2 := ex.hl.lt
      have b3 := ex.hr.lt
      have b4 := ex.hx.lt
      clear d0 d1 d2 d3 d4 d5 d6 v1 v2 v3 m0 m1 m2 m3 m4 m5 m6 m7 m8 m9 m10 m11 m12 m13
      have ex2 := ex.alloc (.cells #[Value.int .u32 (q k).head, .int .u32 (q k).tail, .int .u64 (q k).hold, .int .u64 (q k).resumed, .int .u64 (q k).steals, .int .u64 (q k).stolen, .bool (q k).next] 36)
      have HE2 : Hid (EX w (wa.alloc (.cells #[Value.int .u32 (q k).head, .int .u32 (q k).tail, .int .u64 (q k).hold, .int .u64 (q k).resumed, .int .u64 (q k).steals, .int .u64 (q k).stolen, .bool (q k).next] 36)) sp gl gr gx len sF lf rf xf) := ex2
      clear ex2 ex
      have hnn : ∀ b : Bool, (b != b) = false := by decide
      by_cases hd : 256 < ((q k).tail - (q k).head) % 4294967296
      · have hloc : loc (q k).head (q k).tail = 256 := by rw [loc, if_pos hd]
        rw [hloc] at l1
        clear hloc
        go_upto_region 23 with fail
        go_quiet (fail)
        go_upto_region 25 with fail
        go_quiet (fail)
        go_wp2
        go_roundw
        case rel => exact ⟨k + 1, by omega, by go_num, rfl, rfl, HE2.out.drewN _⟩
        case measure => simp [intOf]; omega
      · have hloc : loc (q k).head (q k).tail = ((q k).tail - (q k).head) % 4294967296 := by rw [loc, if_neg hd]
        rw [hloc] at l1
        clear hloc
        have hd' : ((q k).tail - (q k).head) % 4294967296 ≤ 256 := by omega
        clear hd
        go_upto_region 23 with fail
        go_quiet (fail)
        go_upto_region 25 with fail
        go_quiet (fail)
        go_wp2
        go_roundw
        case rel => exact ⟨k + 1, by omega, by go_num, rfl, rfl, HE2.out.drewN _⟩
        case measure => simp [intOf]; omega
    · have hkl' : ¬ (k : Int) < len := by omega
      have e : k = len := by omega
      subst e
      have z5 : wa.cell? ⟨sp, 5, none⟩ = some (.int .u64 (sumU (fun j => (q j).steals) k)) := by rw [ex.hs.cell (by omega), m5, HS.out.1]
      have z6 : wa.cell? ⟨sp, 6, none⟩ = some (.int .u64 (sumU (fun j => (q j).stolen) k)) := by rw [ex.hs.cell (by omega), m6, HS.out.2]
      clear m0 m1 m2 m3 m4 m5 m6 m7 m8 m9 m10 m11 m12 m13
      go_wp2
      go_ret
      exact ⟨rfl, ex.bel⟩
end Go.Proofs.Ybulkgrw

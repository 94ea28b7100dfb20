/-
  zzs0373abuild, by its contract.
-/
import Derived.Test.YbulkgrwMem
namespace Go.Proofs.Ybulkgrw
open Go.RowKit

/-- The records in memory. -/
def InQ (w : World) (a0 : Option Addr) (len : Nat) (q : Nat → PQ) : Prop := ∀ i, i < len → ∃ b o, a0 = some ⟨b, o, none⟩ ∧ b < w.heap.size ∧
  w.cell? ⟨b, o + i * 7, none⟩ = some (.int .u32 (q i).head) ∧ w.cell? ⟨b, o + i * 7 + 1, none⟩ = some (.int .u32 (q i).tail) ∧ w.cell? ⟨b, o + i * 7 + 2, none⟩ = some (.int .u64 (q i).hold) ∧
  w.cell? ⟨b, o + i * 7 + 3, none⟩ = some (.int .u64 (q i).resumed) ∧ w.cell? ⟨b, o + i * 7 + 4, none⟩ = some (.int .u64 (q i).steals) ∧ w.cell? ⟨b, o + i * 7 + 5, none⟩ = some (.int .u64 (q i).stolen) ∧
  w.cell? ⟨b, o + i * 7 + 6, none⟩ = some (.bool (q i).next)

/-- While the scheduler is laid: the counters' copy in cb, the row of processors in gp, the scheduler in sb. -/
structure St (w0 w : World) (cb gp sb len : Nat) (c f : Nat → Value) : Prop where
  bel : Below w0.heap.size w0 w
  hc : Blk w cb 25 8 c
  hs : Blk w sb 66 34 f
  hr : Blk w gp 68 len (fun _ => .pointer none)
  h1 : w0.heap.size ≤ cb
  h2 : cb < gp
  h3 : gp < sb

theorem St.store {w0 w : World} {cb gp sb len : Nat} {c f : Nat → Value} (h : St w0 w cb gp sb len c f) (i : Nat) (v : Value) : St w0 (w.setCell ⟨sb, i, none⟩ v) cb gp sb len c (upd f i v) :=
  have := h.h1
  have := h.h2
  have := h.h3
  ⟨h.bel.setCell (by show w0.heap.size ≤ sb; omega) v, h.hc.other _ _ (by show cb ≠ sb; omega), h.hs.set i v, h.hr.other _ _ (by show gp ≠ sb; omega), h.h1, h.h2, h.h3⟩
theorem St.drew {w0 w : World} {cb gp sb len : Nat} {c f : Nat → Value} (h : St w0 w cb gp sb len c f) : St w0 w.drew cb gp sb len c f :=
  ⟨h.bel.drew, h.hc.drew, h.hs.drew, h.hr.drew, h.h1, h.h2, h.h3⟩
theorem St.alloc {w0 w : World} {cb gp sb len : Nat} {c f : Nat → Value} (h : St w0 w cb gp sb len c f) (o : Obj) : St w0 (w.alloc o) cb gp sb len c f :=
  ⟨h.bel.alloc h.bel.size o, h.hc.alloc o, h.hs.alloc o, h.hr.alloc o, h.h1, h.h2, h.h3⟩

/-- In a round: the record's copy in qb, the new processor in pb; nothing that stood in wa has turned. -/
structure Rd (wa w : World) (qb pb : Nat) (qf pf : Nat → Value) : Prop where
  bel : Below wa.heap.size wa w
  hq : Blk w qb 36 7 qf
  hp : Blk w pb 80 270 pf
  h1 : wa.heap.size ≤ qb
  h2 : qb < pb
theorem Rd.store {wa w : World} {qb pb : Nat} {qf pf : Nat → Value} (h : Rd wa w qb pb qf pf) (i : Nat) (v : Value) : Rd wa (w.setCell ⟨pb, i, none⟩ v) qb pb qf (upd pf i v) :=
  have := h.h1
  have := h.h2
  ⟨h.bel.setCell (by show wa.heap.size ≤ pb; omega) v, h.hq.other _ _ (by show qb ≠ pb; omega), h.hp.set i v, h.h1, h.h2⟩
theorem Rd.drew {wa w : World} {qb pb : Nat} {qf pf : Nat → Value} (h : Rd wa w qb pb qf pf) : Rd wa w.drew qb pb qf pf := ⟨h.bel.drew, h.hq.drew, h.hp.drew, h.h1, h.h2⟩
theorem Rd.alloc {wa w : World} {qb pb : Nat} {qf pf : Nat → Value} (h : Rd wa w qb pb qf pf) (o : Obj) : Rd wa (w.alloc o) qb pb qf pf := ⟨h.bel.alloc h.bel.size o, h.hq.alloc o, h.hp.alloc o, h.h1, h.h2⟩

def upd' (f : Nat → Nat) (i v : Nat) : Nat → Nat := fun k => if k = i then v else f k

/-- k processors laid. -/
structure J (w wr : World) (gp sb B1 len k : Nat) (fs : Nat → Value) (q : Nat → PQ) : Prop where
  bel : Below w.heap.size w wr
  hs : Blk wr sb 66 34 fs
  row : ∃ r : Nat → Value, Blk wr gp 68 len r ∧ ∃ pb : Nat → Nat, ∀ j, j < k → r j = .pointer (some ⟨pb j, 0, none⟩) ∧ ProcAt wr B1 (pb j) (q j)
  size : B1 ≤ wr.heap.size
  lt : sb < B1
  gs : gp < sb

/-- What the builder leaves. -/
def Built (w w' : World) (len : Nat) (q : Nat → PQ) (c0 c1 c2 c3 c4 c5 c6 : Int) (c7 : Nat) (e : Ending) : Prop :=
  ∃ sb gp ib B1 fs, e = .returned (.pointer (some ⟨sb, 0, none⟩)) ∧ w.heap.size ≤ sb ∧ J w w' gp sb B1 len len fs q ∧
    fs 0 = .slice (some ⟨gp, 0, none⟩) len len ∧ fs 4 = .int .u64 c1 ∧ fs 5 = .int .u64 c0 ∧ fs 6 = .int .i32 0 ∧ fs 12 = .slice (some ⟨ib, 0, none⟩) c7 c7 ∧ fs 15 = .int .u64 c3 ∧ fs 19 = .int .i64 c6 ∧ fs 24 = .int .i32 c4 ∧ fs 26 = .int .i32 c5 ∧ fs 27 = .int .u64 c2

theorem J.next {w wa v : World} {gp sb B1 len k pk : Nat} {fs : Nat → Value} {q : Nat → PQ} (h : J w wa gp sb B1 len k fs q) (hw : w.heap.size ≤ gp) (hb : Below wa.heap.size wa v) (hp : ProcAt v B1 pk (q k)) :
    J w (v.setCell ⟨gp, k, none⟩ (.pointer (some ⟨pk, 0, none⟩))) gp sb B1 len (k + 1) fs q := by
  obtain ⟨r, hr, pb, hpb⟩ := h.row
  have h1 := h.lt
  have h2 := h.gs
  have h3 := h.size
  have hsz : w.heap.size ≤ wa.heap.size := h.bel.size
  refine ⟨(h.bel.trans (hb.mono hsz)).setCell (by show w.heap.size ≤ gp; omega) _, (h.hs.keep hb h.hs.lt).other _ _ (by show sb ≠ gp; omega), ⟨_, (hr.keep hb hr.lt).set k _, upd' pb k pk, fun j hj => ?_⟩, ?_, h1, h2⟩
  · by_cases e : j = k
    · subst e
      refine ⟨by rw [upd_same, upd', if_pos rfl], ?_⟩
      rw [upd', if_pos rfl]
      exact hp.block fun i hi hB => Below.heap_setCell _ _ _ _ (by show i ≠ gp; omega)
    · obtain ⟨h5, h6⟩ := hpb j (by omega)
      refine ⟨by rw [upd_other _ _ _ _ e, upd', if_neg e]; exact h5, ?_⟩
      rw [upd', if_neg e]
      exact (h6.block fun i hi hB => hb.block i hi).block fun i hi hB => Below.heap_setCell _ _ _ _ (by show i ≠ gp; omega)
  · have := hb.size
    simp
    omega
set_option maxRecDepth 100000 in
set_option maxHeartbeats 2000000 in
theorem build_c (a0 : Option Addr) (len cap : Nat) (q : Nat → PQ) (c0 c1 c2 c3 c4 c5 c6 : Int) (c7 : Nat) (w : World) (hin : InQ w a0 len q) (hl : len ≤ 1024) (h7 : c7 ≤ 255) :
    Calls Yba.prog 6 #[.slice a0 len cap, .agg #[.int .u64 c0, .int .u64 c1, .int .u64 c2, .int .u64 c3, .int .i32 c4, .int .i32 c5, .int .i64 c6, .int .u8 c7]] w fun e w' => Built w w' len q c0 c1 c2 c3 c4 c5 c6 c7 e := by
  have HI : Hid (InQ w a0 len q) := hin
  clear hin
  have hmk := run_make_row' (P := Yba.prog) 39 68 (.pointer none) 8 Yba.underlying39 (by kernel_rfl) rfl .i64 .i64 len (by omega) (by omega)
  have hmk2 := run_make_row' (P := Yba.prog) 56 83 (.pointer none) 8 Yba.underlying56 (by kernel_rfl) rfl .i64 .i64 c7 (by omega) (by omega)
  go_enter Yba.func6, Yba.ntmps6
  go_upto_region 2 with fail
  obtain ⟨cb, hcb⟩ : ∃ cb, cb = w.heap.size := ⟨_, rfl⟩
  obtain ⟨gp, hgp⟩ : ∃ gp, gp = w.heap.size + 1 := ⟨_, rfl⟩
  obtain ⟨sb, hsb⟩ : ∃ sb, sb = w.heap.size + 1 + 1 := ⟨_, rfl⟩
  rw [← hsb, ← hgp, ← hcb]
  obtain ⟨csS, hcsS⟩ : ∃ csS, csS = #[Value.slice (some { block := gp, off := 0 }) len len, Value.pointer none,
          Value.int IntKind.i64 0, Value.nilFunc, Value.int IntKind.u64 0, Value.int IntKind.u64 0,
          Value.int IntKind.i32 0, Value.int IntKind.u32 0, Value.pointer none, Value.pointer none,
          Value.int IntKind.i64 0, Value.int IntKind.i64 0, Value.slice none 0 0, Value.slice none 0 0,
          Value.slice none 0 0, Value.int IntKind.u64 0, Value.bool false, Value.bool false, Value.bool false,
          Value.int IntKind.i64 0, Value.chan none, Value.int IntKind.i64 0, Value.int IntKind.i32 0,
          Value.int IntKind.i32 0, Value.int IntKind.i32 0, Value.int IntKind.i32 0, Value.int IntKind.i32 0,
          Value.int IntKind.u64 0, Value.int IntKind.i64 0, Value.int IntKind.i32 0, Value.int IntKind.u32 0,
          Value.pointer none, Value.int IntKind.u64 0, Value.int IntKind.u32 0] := ⟨_, rfl⟩
  rw [← hcsS]
  obtain ⟨csC, hcsC⟩ : ∃ csC, csC = #[Value.int .u64 c0, .int .u64 c1, .int .u64 c2, .int .u64 c3, .int .i32 c4, .int .i32 c5, .int .i64 c6, .int .u8 c7] := ⟨_, rfl⟩
  rw [← hcsC]
  obtain ⟨w3, hw3⟩ : ∃ w3, w3 = ((w.alloc (.cells csC 25)).alloc (.cells (madeCells #[Value.pointer none] len) 68)).alloc (.cells csS 66) := ⟨_, rfl⟩
  rw [← hw3]
  have st : St w w3 cb gp sb len (litF csC) (litF csS) := by
    have g1 := Blk.new w csC 25 (b := cb) (n := 8) hcb (by rw [hcsC]; rfl)
    have g2 := Blk.new (w.alloc (.cells csC 25)) (madeCells #[Value.pointer none] len) 68 (b := gp) (n := len) (by simp [hgp]) (size_madeCells _ _)
    have g3 := Blk.new ((w.alloc (.cells csC 25)).alloc (.cells (madeCells #[Value.pointer none] len) 68)) csS 66 (b := sb) (n := 34) (by simp [hsb]) (by rw [hcsS]; rfl)
    rw [hw3]
    exact ⟨(((Below.refl _ w).alloc (Nat.le_refl _) _).alloc (by simp) _).alloc (by simp; omega) _, (g1.alloc _).alloc _, g3, (g2.alloc _).to fun i hi => by simp [litF, madeCells, hi, Nat.mod_one], by omega, by omega, by omega⟩
  have hne : ¬ sb = cb := by omega
  have hne' : ¬ cb = sb := by omega
  have HC : Hid (litF csC 0 = .int .u64 c0 ∧ litF csC 1 = .int .u64 c1 ∧ litF csC 2 = .int .u64 c2 ∧ litF csC 3 = .int .u64 c3 ∧ litF csC 4 = .int .i32 c4 ∧ litF csC 5 = .int .i32 c5 ∧ litF csC 6 = .int .i64 c6 ∧ litF csC 7 = .int .u8 c7) := by
    rw [hcsC]; exact ⟨rfl, rfl, rfl, rfl, rfl, rfl, rfl, rfl⟩
  have HS : Hid (litF csS 0 = .slice (some ⟨gp, 0, none⟩) len len ∧ litF csS 6 = .int .i32 0) := by rw [hcsS]; exact ⟨rfl, rfl⟩
  have HG : Hid (cb < gp ∧ gp < sb ∧ w.heap.size ≤ cb) := ⟨by omega, by omega, by omega⟩
  clear hw3 hcb hgp hsb hcsC hcsS
  obtain ⟨cf, hcf⟩ : ∃ cf, cf = litF csC := ⟨_, rfl⟩
  obtain ⟨f0, hf0⟩ : ∃ f0, f0 = litF csS := ⟨_, rfl⟩
  rw [← hcf] at st HC
  rw [← hf0] at st HS
  clear hcf hf0
  have qc : w3.cell? ⟨cb, 0, none⟩ = some (.int .u64 c0) := by rw [st.hc.cell (by omega), HC.out.1]
  have sc := st.drew.hs.cell (i := 5) (by omega)
  have sf := st.drew.hs.frz 5
  go_region_held3 (fun w' => w'.cell? ⟨cb, 0, none⟩ = some (.int .u64 c0)) (go_keep) ((go_at_call 16; refine (storeU64_c ⟨sb, 5, none⟩ c0 _ w3.drew sc sf).mono ?_; rintro e w' ⟨rfl, rfl⟩))
  have st' := (st.store 5 (.int .u64 c0)).drew
  rename_i hh
  clear hh
  clear qc sc sf st
  obtain ⟨w4, hw⟩ : ∃ w', w' = (w3.setCell ⟨sb, 5, none⟩ (.int .u64 c0)).drew := ⟨_, rfl⟩
  rw [← hw] at st' ⊢
  clear hw
  go_upto_region 3 with fail
  have qc : w4.cell? ⟨cb, 1, none⟩ = some (.int .u64 c1) := by rw [st'.hc.cell (by omega), HC.out.2.1]
  have sc := st'.drew.hs.cell (i := 4) (by omega)
  have sf := st'.drew.hs.frz 4
  go_region_held3 (fun w' => w'.cell? ⟨cb, 1, none⟩ = some (.int .u64 c1)) (go_keep) ((go_at_call 16; refine (storeU64_c ⟨sb, 4, none⟩ c1 _ w4.drew sc sf).mono ?_; rintro e w' ⟨rfl, rfl⟩))
  have st'' := (st'.store 4 (.int .u64 c1)).drew
  rename_i hh
  clear hh
  clear qc sc sf st'
  obtain ⟨w5, hw⟩ : ∃ w', w' = (w4.setCell ⟨sb, 4, none⟩ (.int .u64 c1)).drew := ⟨_, rfl⟩
  rw [← hw] at st'' ⊢
  clear hw
  go_upto_region 4 with fail
  have qc : w5.cell? ⟨cb, 2, none⟩ = some (.int .u64 c2) := by rw [st''.hc.cell (by omega), HC.out.2.2.1]
  have sc := st''.drew.hs.cell (i := 27) (by omega)
  have sf := st''.drew.hs.frz 27
  go_region_held3 (fun w' => w'.cell? ⟨cb, 2, none⟩ = some (.int .u64 c2)) (go_keep) ((go_at_call 16; refine (storeU64_c ⟨sb, 27, none⟩ c2 _ w5.drew sc sf).mono ?_; rintro e w' ⟨rfl, rfl⟩))
  have st''' := (st''.store 27 (.int .u64 c2)).drew
  rename_i hh
  clear hh
  clear qc sc sf st''
  obtain ⟨w6, hw⟩ : ∃ w', w' = (w5.setCell ⟨sb, 27, none⟩ (.int .u64 c2)).drew := ⟨_, rfl⟩
  rw [← hw] at st''' ⊢
  clear hw
  go_upto_region 5 with fail
  have qc : w6.cell? ⟨cb, 4, none⟩ = some (.int .i32 c4) := by rw [st'''.hc.cell (by omega), HC.out.2.2.2.2.1]
  have sc := st'''.drew.hs.cell (i := 24) (by omega)
  have sf := st'''.drew.hs.frz 24
  go_region_held3 (fun w' => w'.cell? ⟨cb, 4, none⟩ = some (.int .i32 c4)) (go_keep) ((go_at_call 13; refine (storeI32_c ⟨sb, 24, none⟩ c4 _ w6.drew sc sf).mono ?_; rintro e w' ⟨rfl, rfl⟩))
  have st'''' := (st'''.store 24 (.int .i32 c4)).drew
  rename_i hh
  clear hh
  clear qc sc sf st'''
  obtain ⟨w7, hw⟩ : ∃ w', w' = (w6.setCell ⟨sb, 24, none⟩ (.int .i32 c4)).drew := ⟨_, rfl⟩
  rw [← hw] at st'''' ⊢
  clear hw
  go_upto_region 6 with fail
  have qc : w7.cell? ⟨cb, 5, none⟩ = some (.int .i32 c5) := by rw [st''''.hc.cell (by omega), HC.out.2.2.2.2.2.1]
  have sc := st''''.drew.hs.cell (i := 26) (by omega)
  have sf := st''''.drew.hs.frz 26
  go_region_held3 (fun w' => w'.cell? ⟨cb, 5, none⟩ = some (.int .i32 c5)) (go_keep) ((go_at_call 13; refine (storeI32_c ⟨sb, 26, none⟩ c5 _ w7.drew sc sf).mono ?_; rintro e w' ⟨rfl, rfl⟩))
  have st''''' := (st''''.store 26 (.int .i32 c5)).drew
  rename_i hh
  clear hh
  clear qc sc sf st''''
  obtain ⟨w8, hw⟩ : ∃ w', w' = (w7.setCell ⟨sb, 26, none⟩ (.int .i32 c5)).drew := ⟨_, rfl⟩
  rw [← hw] at st''''' ⊢
  clear hw
  go_upto_region 7 with fail
  have qc : w8.cell? ⟨cb, 6, none⟩ = some (.int .i64 c6) := by rw [st'''''.hc.cell (by omega), HC.out.2.2.2.2.2.2.1]
  have sc := st'''''.drew.hs.cell (i := 19) (by omega)
  have sf := st'''''.drew.hs.frz 19
  go_region_held3 (fun w' => w'.cell? ⟨cb, 6, none⟩ = some (.int .i64 c6)) (go_keep) ((go_at_call 17; refine (storeI64_c ⟨sb, 19, none⟩ c6 _ w8.drew sc sf).mono ?_; rintro e w' ⟨rfl, rfl⟩))
  have st'''''' := (st'''''.store 19 (.int .i64 c6)).drew
  rename_i hh
  clear hh
  clear qc sc sf st'''''
  obtain ⟨w9, hw⟩ : ∃ w', w' = (w8.setCell ⟨sb, 19, none⟩ (.int .i64 c6)).drew := ⟨_, rfl⟩
  rw [← hw] at st'''''' ⊢
  clear hw
  have c3' : w9.cell? ⟨cb, 3, none⟩ = some (.int .u64 c3) := by rw [st''''''.hc.cell (by omega), HC.out.2.2.2.1]
  have c7' : w9.cell? ⟨cb, 7, none⟩ = some (.int .u8 c7) := by rw [st''''''.hc.cell (by omega), HC.out.2.2.2.2.2.2.2]
  have s15 := st''''''.hs.cell (i := 15) (by omega)
  have s12 := st''''''.hs.cell (i := 12) (by omega)
  have f15 := st''''''.hs.frz 15
  have f12 := st''''''.hs.frz 12
  have lcb := st''''''.hc.lt
  have lsb := st''''''.hs.lt
  go_upto_region 10 with fail
  have stL := ((st''''''.store 15 (.int .u64 c3)).store 12 (.slice (some ⟨w9.heap.size, 0, none⟩) c7 c7)).alloc (.cells (madeCells #[Value.pointer none] c7) 83)
  obtain ⟨ib, hib⟩ : ∃ ib, ib = w9.heap.size := ⟨_, rfl⟩
  rw [← hib] at stL ⊢
  clear hib c3' c7' s15 s12 f15 f12 lcb lsb st'''''' hmk hmk2
  obtain ⟨wl, hwl⟩ : ∃ w', w' = ((w9.setCell ⟨sb, 15, none⟩ (.int .u64 c3)).setCell ⟨sb, 12, none⟩ (.slice (some ⟨ib, 0, none⟩) c7 c7)).alloc (.cells (madeCells #[Value.pointer none] c7) 83) := ⟨_, rfl⟩
  rw [← hwl] at stL ⊢
  clear hwl
  obtain ⟨fs, hfs⟩ : ∃ fs, fs = upd (upd (upd (upd (upd (upd (upd (upd f0 5 (.int .u64 c0)) 4 (.int .u64 c1)) 27 (.int .u64 c2)) 24 (.int .i32 c4)) 26 (.int .i32 c5)) 19 (.int .i64 c6)) 15 (.int .u64 c3)) 12 (.slice (some ⟨ib, 0, none⟩) c7 c7) := ⟨_, rfl⟩
  rw [← hfs] at stL
  have HF : Hid (fs 0 = .slice (some ⟨gp, 0, none⟩) len len ∧ fs 4 = .int .u64 c1 ∧ fs 5 = .int .u64 c0 ∧ fs 6 = .int .i32 0 ∧ fs 12 = .slice (some ⟨ib, 0, none⟩) c7 c7 ∧ fs 15 = .int .u64 c3 ∧ fs 19 = .int .i64 c6 ∧ fs 24 = .int .i32 c4 ∧ fs 26 = .int .i32 c5 ∧ fs 27 = .int .u64 c2) := by
    rw [hfs]
    refine ⟨by simp [upd, HS.out.1], ?_, ?_, by simp [upd, HS.out.2], ?_, ?_, ?_, ?_, ?_, ?_⟩ <;> simp [upd]
  clear hfs HS HC
  obtain ⟨B1, hB1⟩ : ∃ B1, B1 = wl.heap.size := ⟨_, rfl⟩
  have J0 : J w wl gp sb B1 len 0 fs q := ⟨stL.bel, stL.hs, ⟨_, stL.hr, fun _ => 0, fun j hj => absurd hj (by omega)⟩, by omega, by have := stL.hs.lt; omega, HG.out.2.1⟩
  clear hB1 stL
  go_wp2
  go_loopw [6] (fun i wr => ∃ k : Nat, k ≤ len ∧ i = .int .i64 k ∧ J w wr gp sb B1 len k fs q) (fun i _ => len - (intOf i).toNat)
  case atStart => exact ⟨0, by omega, rfl, J0⟩
  case round =>
    obtain ⟨k, hk, rfl, hJ⟩ := hrel
    rename World => wa
    clear J0
    by_cases hkl : k < len
    · obtain ⟨pb0, po, rfl, hpl, d0, d1, d2, d3, d4, d5, d6⟩ := HI.out k hkl
      have hkl' : (k : Int) < len := by omega
      have r0 := (hJ.bel.cell (p := ⟨pb0, po + k * 7, none⟩) hpl).trans d0
      have r1 := (hJ.bel.cell (p := ⟨pb0, po + k * 7 + 1, none⟩) hpl).trans d1
      have r2 := (hJ.bel.cell (p := ⟨pb0, po + k * 7 + 2, none⟩) hpl).trans d2
      have r3 := (hJ.bel.cell (p := ⟨pb0, po + k * 7 + 3, none⟩) hpl).trans d3
      have r4 := (hJ.bel.cell (p := ⟨pb0, po + k * 7 + 4, none⟩) hpl).trans d4
      have r5 := (hJ.bel.cell (p := ⟨pb0, po + k * 7 + 5, none⟩) hpl).trans d5
      have r6 := (hJ.bel.cell (p := ⟨pb0, po + k * 7 + 6, none⟩) hpl).trans d6
      clear d0 d1 d2 d3 d4 d5 d6
      go_upto_region 14 with fail
      go_upto_region 15 with (first | refine wpList_build80 _ rfl (.tmp 72) (.tmp 73) rfl sb k rfl rfl ?_ | refine wpList_box80 _ rfl (.tmp 74) rfl (procCells sb k) rfl ?_)
      have hsz : (wa.alloc (.cells #[Value.int .u32 (q k).head, .int .u32 (q k).tail, .int .u64 (q k).hold, .int .u64 (q k).resumed, .int .u64 (q k).steals, .int .u64 (q k).stolen, .bool (q k).next] 36)).heap.size = wa.heap.size + 1 := by simp
      have rd : Rd wa _ wa.heap.size (wa.heap.size + 1) _ _ := ⟨((Below.refl _ wa).alloc (Nat.le_refl _) _).alloc (by simp) _, (Blk.new wa #[Value.int .u32 (q k).head, .int .u32 (q k).tail, .int .u64 (q k).hold, .int .u64 (q k).resumed, .int .u64 (q k).steals, .int .u64 (q k).stolen, .bool (q k).next] 36 rfl rfl).alloc (.cells (procCells sb k) 80), Blk.new _ (procCells sb k) 80 hsz.symm (procCells_size sb k), Nat.le_refl _, by omega⟩
      clear hsz r0 r1 r2 r3 r4 r5 r6
      obtain ⟨v0, hv0⟩ : ∃ w', w' = (wa.alloc (.cells #[Value.int .u32 (q k).head, .int .u32 (q k).tail, .int .u64 (q k).hold, .int .u64 (q k).resumed, .int .u64 (q k).steals, .int .u64 (q k).stolen, .bool (q k).next] 36)).alloc (.cells (procCells sb k) 80) := ⟨_, rfl⟩
      rw [← hv0] at rd ⊢
      clear hv0
      obtain ⟨pk, hpk⟩ : ∃ pk, pk = wa.heap.size + 1 := ⟨_, rfl⟩
      rw [← hpk] at rd ⊢
      obtain ⟨qk, hqk⟩ : ∃ qk, qk = wa.heap.size := ⟨_, rfl⟩
      rw [← hqk] at rd ⊢
      clear hpk hqk
      obtain ⟨qf, hqf⟩ : ∃ qf, qf = litF #[Value.int .u32 (q k).head, .int .u32 (q k).tail, .int .u64 (q k).hold, .int .u64 (q k).resumed, .int .u64 (q k).steals, .int .u64 (q k).stolen, .bool (q k).next] := ⟨_, rfl⟩
      rw [← hqf] at rd
      have HQ : Hid (qf 0 = .int .u32 (q k).head ∧ qf 1 = .int .u32 (q k).tail ∧ qf 2 = .int .u64 (q k).hold ∧ qf 3 = .int .u64 (q k).resumed ∧ qf 4 = .int .u64 (q k).steals ∧ qf 5 = .int .u64 (q k).stolen ∧ qf 6 = .bool (q k).next) := by
        rw [hqf]; exact ⟨rfl, rfl, rfl, rfl, rfl, rfl, rfl⟩
      clear hqf
      have hpq : ¬ pk = qk := by have := rd.h2; omega
      have hpq' : ¬ qk = pk := by omega
      have qc : v0.cell? ⟨qk, 0, none⟩ = some (.int .u32 (q k).head) := by rw [rd.hq.cell (by omega), HQ.out.1]
      have sc := rd.drew.hp.cell (i := 3) (by omega)
      have sf := rd.drew.hp.frz 3
      go_region_held3 (fun w' => w'.cell? ⟨qk, 0, none⟩ = some (.int .u32 (q k).head)) (go_keep) ((go_at_call 18; refine (storeU32_c ⟨pk, 3, none⟩ (q k).head _ v0.drew sc sf).mono ?_; rintro e w' ⟨rfl, rfl⟩))
      have rd' := (rd.store 3 (.int .u32 (q k).head)).drew
      rename_i hh
      clear hh
      clear qc sc sf rd
      obtain ⟨v1, hw⟩ : ∃ w', w' = (v0.setCell ⟨pk, 3, none⟩ (.int .u32 (q k).head)).drew := ⟨_, rfl⟩
      rw [← hw] at rd' ⊢
      clear hw
      go_upto_region 16 with fail
      have qc : v1.cell? ⟨qk, 1, none⟩ = some (.int .u32 (q k).tail) := by rw [rd'.hq.cell (by omega), HQ.out.2.1]
      have sc := rd'.drew.hp.cell (i := 4) (by omega)
      have sf := rd'.drew.hp.frz 4
      go_region_held3 (fun w' => w'.cell? ⟨qk, 1, none⟩ = some (.int .u32 (q k).tail)) (go_keep) ((go_at_call 18; refine (storeU32_c ⟨pk, 4, none⟩ (q k).tail _ v1.drew sc sf).mono ?_; rintro e w' ⟨rfl, rfl⟩))
      have rd'' := (rd'.store 4 (.int .u32 (q k).tail)).drew
      rename_i hh
      clear hh
      clear qc sc sf rd'
      obtain ⟨v2, hw⟩ : ∃ w', w' = (v1.setCell ⟨pk, 4, none⟩ (.int .u32 (q k).tail)).drew := ⟨_, rfl⟩
      rw [← hw] at rd'' ⊢
      clear hw
      go_upto_region 17 with fail
      have qc : v2.cell? ⟨qk, 2, none⟩ = some (.int .u64 (q k).hold) := by rw [rd''.hq.cell (by omega), HQ.out.2.2.1]
      have sc := rd''.drew.hp.cell (i := 263) (by omega)
      have sf := rd''.drew.hp.frz 263
      go_region_held3 (fun w' => w'.cell? ⟨qk, 2, none⟩ = some (.int .u64 (q k).hold)) (go_keep) ((go_at_call 16; refine (storeU64_c ⟨pk, 263, none⟩ (q k).hold _ v2.drew sc sf).mono ?_; rintro e w' ⟨rfl, rfl⟩))
      have rd''' := (rd''.store 263 (.int .u64 (q k).hold)).drew
      rename_i hh
      clear hh
      clear qc sc sf rd''
      obtain ⟨v3, hw⟩ : ∃ w', w' = (v2.setCell ⟨pk, 263, none⟩ (.int .u64 (q k).hold)).drew := ⟨_, rfl⟩
      rw [← hw] at rd''' ⊢
      clear hw
      go_upto_region 18 with fail
      have qc : v3.cell? ⟨qk, 3, none⟩ = some (.int .u64 (q k).resumed) := by rw [rd'''.hq.cell (by omega), HQ.out.2.2.2.1]
      have sc := rd'''.drew.hp.cell (i := 267) (by omega)
      have sf := rd'''.drew.hp.frz 267
      go_region_held3 (fun w' => w'.cell? ⟨qk, 3, none⟩ = some (.int .u64 (q k).resumed)) (go_keep) ((go_at_call 16; refine (storeU64_c ⟨pk, 267, none⟩ (q k).resumed _ v3.drew sc sf).mono ?_; rintro e w' ⟨rfl, rfl⟩))
      have rd'''' := (rd'''.store 267 (.int .u64 (q k).resumed)).drew
      rename_i hh
      clear hh
      clear qc sc sf rd'''
      obtain ⟨v4, hw⟩ : ∃ w', w' = (v3.setCell ⟨pk, 267, none⟩ (.int .u64 (q k).resumed)).drew := ⟨_, rfl⟩
      rw [← hw] at rd'''' ⊢
      clear hw
      go_upto_region 19 with fail
      have qc : v4.cell? ⟨qk, 4, none⟩ = some (.int .u64 (q k).steals) := by rw [rd''''.hq.cell (by omega), HQ.out.2.2.2.2.1]
      have sc := rd''''.drew.hp.cell (i := 268) (by omega)
      have sf := rd''''.drew.hp.frz 268
      go_region_held3 (fun w' => w'.cell? ⟨qk, 4, none⟩ = some (.int .u64 (q k).steals)) (go_keep) ((go_at_call 16; refine (storeU64_c ⟨pk, 268, none⟩ (q k).steals _ v4.drew sc sf).mono ?_; rintro e w' ⟨rfl, rfl⟩))
      have rd''''' := (rd''''.store 268 (.int .u64 (q k).steals)).drew
      rename_i hh
      clear hh
      clear qc sc sf rd''''
      obtain ⟨v5, hw⟩ : ∃ w', w' = (v4.setCell ⟨pk, 268, none⟩ (.int .u64 (q k).steals)).drew := ⟨_, rfl⟩
      rw [← hw] at rd''''' ⊢
      clear hw
      go_upto_region 20 with fail
      have qc : v5.cell? ⟨qk, 5, none⟩ = some (.int .u64 (q k).stolen) := by rw [rd'''''.hq.cell (by omega), HQ.out.2.2.2.2.2.1]
      have sc := rd'''''.drew.hp.cell (i := 269) (by omega)
      have sf := rd'''''.drew.hp.frz 269
      go_region_held3 (fun w' => w'.cell? ⟨qk, 5, none⟩ = some (.int .u64 (q k).stolen)) (go_keep) ((go_at_call 16; refine (storeU64_c ⟨pk, 269, none⟩ (q k).stolen _ v5.drew sc sf).mono ?_; rintro e w' ⟨rfl, rfl⟩))
      have rd'''''' := (rd'''''.store 269 (.int .u64 (q k).stolen)).drew
      rename_i hh
      clear hh
      clear qc sc sf rd'''''
      obtain ⟨v6, hw⟩ : ∃ w', w' = (v5.setCell ⟨pk, 269, none⟩ (.int .u64 (q k).stolen)).drew := ⟨_, rfl⟩
      rw [← hw] at rd'''''' ⊢
      clear hw
      have c6' : v6.cell? ⟨qk, 6, none⟩ = some (.bool (q k).next) := by rw [rd''''''.hq.cell (by omega), HQ.out.2.2.2.2.2.2]
      obtain ⟨r, hr, -⟩ := hJ.row
      have g0 : v6.cell? ⟨sb, 0, none⟩ = some (.slice (some ⟨gp, 0, none⟩) len len) := by rw [(hJ.hs.keep rd''''''.bel hJ.hs.lt).cell (by omega), HF.out.1]
      have g1 := (hr.keep rd''''''.bel hr.lt).cell hkl
      have g2 := (hr.keep rd''''''.bel hr.lt).frz k
      have hsp : ¬ pk = sb := by have := rd''''''.h1; have := rd''''''.h2; have := hJ.hs.lt; omega
      have hgpk : ¬ pk = gp := by have := rd''''''.h1; have := rd''''''.h2; have := hr.lt; omega
      have lpk := rd''''''.hp.lt
      have hlt1 := (hJ.hs.keep rd''''''.bel hJ.hs.lt).lt
      have hlt2 := (hr.keep rd''''''.bel hr.lt).lt
      obtain ⟨pf, hpf⟩ : ∃ pf, pf = (upd (upd (upd (upd (upd (upd (litF (procCells sb k)) 3 (.int .u32 (q k).head)) 4 (.int .u32 (q k).tail)) 263 (.int .u64 (q k).hold)) 267 (.int .u64 (q k).resumed)) 268 (.int .u64 (q k).steals)) 269 (.int .u64 (q k).stolen)) := ⟨_, rfl⟩
      rw [← hpf] at rd''''''
      have HP : Hid (pf 2 = .pointer none ∧ pf 3 = .int .u32 (q k).head ∧ pf 4 = .int .u32 (q k).tail ∧ pf 263 = .int .u64 (q k).hold ∧ pf 267 = .int .u64 (q k).resumed ∧ pf 268 = .int .u64 (q k).steals ∧ pf 269 = .int .u64 (q k).stolen) := by
        rw [hpf]
        refine ⟨?_, ?_, ?_, ?_, ?_, ?_, ?_⟩
        · simp [upd]; exact procCells_next sb k
        all_goals simp [upd]
      clear hpf
      have HBp : Hid (B1 ≤ pk ∧ B1 ≤ v6.heap.size ∧ w.heap.size ≤ gp) := ⟨by have := rd''''''.h1; have := rd''''''.h2; have := hJ.size; omega, by have := rd''''''.bel.size; have := hJ.size; omega, by have := HG.out; omega⟩
      cases hn : (q k).next with
      | true =>
        rw [hn] at c6'
        have p2 := (rd''''''.alloc (.cells #[.nilFunc, .pointer none] 101)).hp.cell (i := 2) (by omega)
        have p2f := (rd''''''.alloc (.cells #[.nilFunc, .pointer none] 101)).hp.frz 2
        have hgT : (v6.alloc (.cells #[.nilFunc, .pointer none] 101)).heap[v6.heap.size]? = some (.cells #[.nilFunc, .pointer none] 101) := by show (v6.heap.push _)[v6.heap.size]? = _; rw [Array.getElem?_push_size]
        go_upto_region 22 with fail
        go_wp2_with (go_at_call 19; refine (storePtr_c ⟨pk, 2, none⟩ v6.heap.size #[.nilFunc, .pointer none] _ _ p2 p2f hgT rfl).mono ?_; rintro e w' ⟨rfl, rfl⟩)
        have hPA : ProcAt ((v6.alloc (.cells #[.nilFunc, .pointer none] 101)).setCell ⟨pk, 2, none⟩ (.pointer (some ⟨v6.heap.size, 0, none⟩))) B1 pk (q k) := by
          have hb := (rd''''''.alloc (.cells #[.nilFunc, .pointer none] 101)).store 2 (.pointer (some ⟨v6.heap.size, 0, none⟩))
          have hT := (Blk.new v6 #[.nilFunc, .pointer none] 101 rfl rfl).other ⟨pk, 2, none⟩ (.pointer (some ⟨v6.heap.size, 0, none⟩)) (by show v6.heap.size ≠ pk; omega)
          obtain ⟨e2, e3, e4, e5, e6, e7, e8⟩ := HP.out
          exact ⟨⟨_, hb.hp, by simp [upd, e3], by simp [upd, e4], by simp [upd, e5], by simp [upd, e6], by simp [upd, e7], by simp [upd, e8], .inr ⟨hn, _, _, HBp.out.2.1, upd_same _ _ _, hT⟩⟩, HBp.out.1⟩
        have hJ2 := hJ.next HBp.out.2.2 ((rd''''''.alloc (.cells #[.nilFunc, .pointer none] 101)).store 2 (.pointer (some ⟨v6.heap.size, 0, none⟩))).bel hPA
        have HJ2 : Hid (J w (((v6.setCell ⟨pk, 2, none⟩ (.pointer (some ⟨v6.heap.size, 0, none⟩))).setCell ⟨gp, k, none⟩ (.pointer (some ⟨pk, 0, none⟩))).alloc (.cells #[.nilFunc, .pointer none] 101)) gp sb B1 len (k + 1) fs q) := by
          rw [World.setCell_alloc_past _ _ _ _ lpk, World.setCell_alloc_past _ _ _ _ (by simpa using hlt2)] at hJ2
          exact hJ2
        go_roundw
        case rel => exact ⟨k + 1, by omega, by go_num, HJ2.out⟩
        case measure => simp [intOf]; omega
      | false =>
        rw [hn] at c6'
        go_wp2
        have hPA : ProcAt v6 B1 pk (q k) := by
          obtain ⟨e2, e3, e4, e5, e6, e7, e8⟩ := HP.out
          exact ⟨⟨_, rd''''''.hp, e3, e4, e5, e6, e7, e8, .inl ⟨hn, e2⟩⟩, HBp.out.1⟩
        have hJ2 := hJ.next HBp.out.2.2 rd''''''.bel hPA
        go_roundw
        case rel => exact ⟨k + 1, by omega, by go_num, hJ2⟩
        case measure => simp [intOf]; omega
    · have hkl' : ¬ (k : Int) < len := by omega
      go_wp2
      go_ret
      have e : k = len := by omega
      subst e
      exact ⟨sb, gp, ib, B1, fs, rfl, by have := HG.out; omega, hJ, HF.out⟩
end Go.Proofs.Ybulkgrw

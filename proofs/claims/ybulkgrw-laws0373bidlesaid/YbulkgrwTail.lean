/-
  LawS0373BIdle behind its set-up: what is laid; the code that follows.
-/
import Derived.Test.YbulkgrwIdleF
import Derived.LaidEqlPtr
import Derived.Lib.Builder
import Derived.Conc.LoneSelectN
namespace Go.Proofs.Ybulkgrw
open Go.RowKit Go.Conc

def tailOf : Nat → Code → Code
  | n + 1, .seq _ y => tailOf n y
  | _, c => c
/-- The law's code from the call of idleLocked on. -/
noncomputable def tail5 : Code := tailOf 23 (Yba.f5.body.getD .skip)

/-- What the set-up has laid. -/
structure Laid (n0 : Nat) (w : World) (sb gp ib vb tb qb wb wc I0 V0 np ni nw nq : Nat) (fs pf : Nat → Value) (p : Option Addr) (a5 a6 a7 : Int) : Prop where
  hs : Blk w sb 66 34 fs
  hp : Blk w gp 68 np pf
  hi : Blk w ib 83 ni (fun j => .pointer (some ⟨I0 + 2 * j + 1, 0, none⟩))
  hI : ∀ j, j < ni → Blk w (I0 + 2 * j + 1) 91 12 (litF (wkCells (.pointer none) (I0 + 2 * j) j false))
  hv : Blk w vb 83 nw (fun j => .pointer (some ⟨V0 + 2 * j + 1, 0, none⟩))
  hV : ∀ j, j < nw → Blk w (V0 + 2 * j + 1) 91 12 (litF (wkCells (.pointer none) (V0 + 2 * j) (-1) false))
  hC : ∀ j, j < nw → w.heap[V0 + 2 * j]? = some (.chan 1 #[] false 0 0 false)
  ht : Blk w tb 83 nw (fun j => .pointer (some ⟨V0 + 2 * j + 1, 0, none⟩))
  hq : Blk w qb 68 nq pf
  hw : Blk w wb 91 12 (litF (wkCells (.pointer p) wc (-1) false))
  hc : w.heap[wc]? = some (.chan 1 #[] false 0 0 false)
  pp : ∀ j, j < np → ∃ x, pf j = .pointer x
  f0 : fs 0 = .slice (some ⟨gp, 0, none⟩) np np
  f12 : fs 12 = .slice (some ⟨ib, 0, none⟩) ni ni
  f13 : fs 13 = .slice (some ⟨qb, 0, none⟩) nq nq
  f14 : fs 14 = .slice (some ⟨tb, 0, none⟩) nw nw
  f22 : fs 22 = .int .i32 a5
  f23 : fs 23 = .int .i32 a6
  f25 : fs 25 = .int .i32 a7
  o0 : n0 ≤ sb
  o1 : sb < gp
  o2 : gp < ib
  o3 : ib < I0
  o4 : I0 + 2 * ni ≤ vb
  o5 : vb < V0
  o6 : V0 + 2 * nw ≤ tb
  o7 : tb < qb
  o8 : qb < wc
  o9 : wc < wb
  m0 : ni ≤ 255
  m1 : nw ≤ 5
  m2 : nq < np
  m3 : np ≤ 8

theorem neq68 (x : Option Addr) (w : World) : (binOp .neq 68 (.pointer x) (.pointer x)).run Yba.prog w = .ok (.bool false) w := by
  obtain ⟨i, hi, _⟩ : ∃ i : TypeInfo, Yba.prog.info? 80 = some i ∧ True := by
    have h : (Yba.prog.info? 80).isSome = true := by kernel_rfl
    obtain ⟨i, hi⟩ := Option.isSome_iff_exists.1 h
    exact ⟨i, hi, trivial⟩
  cases x with
  | none => kernel_rfl
  | some a => exact Go.Lib.run_neq_ptr_same w a Yba.underlying68 hi
theorem neq83 (x : Option Addr) (w : World) : (binOp .neq 83 (.pointer x) (.pointer x)).run Yba.prog w = .ok (.bool false) w := by
  obtain ⟨i, hi, _⟩ : ∃ i : TypeInfo, Yba.prog.info? 91 = some i ∧ True := by
    have h : (Yba.prog.info? 91).isSome = true := by kernel_rfl
    obtain ⟨i, hi⟩ := Option.isSome_iff_exists.1 h
    exact ⟨i, hi, trivial⟩
  cases x with
  | none => kernel_rfl
  | some a => exact Go.Lib.run_neq_ptr_same w a Yba.underlying83 hi

/-- 'len' of a channel. -/
theorem lenChan {w : World} {c cap s r : Nat} {buf : Array Value} {closed : Bool} (hc : w.heap[c]? = some (.chan cap buf closed s r false)) (ty : TypeId) :
    (Builtin.len_ #[85] ty #[.chan (some c)]).run Yba.prog w = .ok (.int .i64 buf.size) w := run_len_chan 85 ty Yba.underlying85 hc

/-- The same memory. -/
structure Sm (w wr : World) : Prop where
  heap : wr.heap = w.heap
  os : wr.os = w.os
  tape : wr.tape = w.tape
  output : wr.output = w.output
theorem Sm.refl (w : World) : Sm w w := ⟨rfl, rfl, rfl, rfl⟩
theorem Sm.cell {w wr : World} (h : Sm w wr) (a : Addr) : wr.cell? a = w.cell? a := World.cell?_of_block (w := w) (by rw [h.heap])
theorem Sm.obj {w wr : World} (h : Sm w wr) (b : Nat) : wr.heap[b]? = w.heap[b]? := by rw [h.heap]
theorem Sm.drewN {w wr : World} (h : Sm w wr) (n : Nat) : Sm w (wr.drewN n) := ⟨h.heap, h.os, h.tape, h.output⟩
theorem Sm.drew {w wr : World} (h : Sm w wr) : Sm w wr.drew := ⟨h.heap, h.os, h.tape, h.output⟩
theorem Sm.below {B : Nat} {W w wr : World} (h : Sm w wr) (hb : Below B W w) : Below B W wr := ⟨h.os.trans hb.os, h.tape.trans hb.tape, h.output.trans hb.output, by rw [h.heap]; exact hb.size, fun k hk => by rw [h.heap]; exact hb.block k hk⟩
end Go.Proofs.Ybulkgrw

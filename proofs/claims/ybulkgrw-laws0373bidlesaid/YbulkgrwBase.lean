/-
  THE ATOMIC WORDS AND THE LOCK, as this program holds them: contracts.
-/
import Derived.Test.YbulkgrwRows
import Derived.WalkKit
import Derived.Laws.LoneSync
import Derived.Laws.NewBlocks
import Derived.Conc.MuLone
import Derived.KernelRfl
import Derived.Deep.QuietTactic
import Derived.BigQuiet
namespace Go.Proofs.Ybulkgrw
open Go.RowKit

theorem storeU64_c (a : Addr) (y : Int) (u : Value) (w : World) (hc : w.cell? a = some u) (hz : w.frozen? a = false) :
    Calls Yba.prog 16 #[.pointer (some a), .int .u64 y] w fun e w' => e = .returned (.tuple #[]) ∧ w' = w.setCell a (.int .u64 y) := by
  have h := run_call_store (P := Yba.prog) Yba.func33 (by kernel_rfl) (by kernel_rfl) (by kernel_rfl) (by kernel_rfl) (k := .u64) (y := y) hc hz
  go_enter Yba.func16, Yba.ntmps16
  go_wp2
  go_end0
  exact ⟨rfl, rfl⟩
theorem storeI32_c (a : Addr) (y : Int) (u : Value) (w : World) (hc : w.cell? a = some u) (hz : w.frozen? a = false) :
    Calls Yba.prog 13 #[.pointer (some a), .int .i32 y] w fun e w' => e = .returned (.tuple #[]) ∧ w' = w.setCell a (.int .i32 y) := by
  have h := run_call_store (P := Yba.prog) Yba.func28 (by kernel_rfl) (by kernel_rfl) (by kernel_rfl) (by kernel_rfl) (k := .i32) (y := y) hc hz
  go_enter Yba.func13, Yba.ntmps13
  go_wp2
  go_end0
  exact ⟨rfl, rfl⟩
theorem storeI64_c (a : Addr) (y : Int) (u : Value) (w : World) (hc : w.cell? a = some u) (hz : w.frozen? a = false) :
    Calls Yba.prog 17 #[.pointer (some a), .int .i64 y] w fun e w' => e = .returned (.tuple #[]) ∧ w' = w.setCell a (.int .i64 y) := by
  have h := run_call_store (P := Yba.prog) Yba.func34 (by kernel_rfl) (by kernel_rfl) (by kernel_rfl) (by kernel_rfl) (k := .i64) (y := y) hc hz
  go_enter Yba.func17, Yba.ntmps17
  go_wp2
  go_end0
  exact ⟨rfl, rfl⟩
theorem storeU32_c (a : Addr) (y : Int) (u : Value) (w : World) (hc : w.cell? a = some u) (hz : w.frozen? a = false) :
    Calls Yba.prog 18 #[.pointer (some a), .int .u32 y] w fun e w' => e = .returned (.tuple #[]) ∧ w' = w.setCell a (.int .u32 y) := by
  have h := run_call_store (P := Yba.prog) Yba.func35 (by kernel_rfl) (by kernel_rfl) (by kernel_rfl) (by kernel_rfl) (k := .u32) (y := y) hc hz
  go_enter Yba.func18, Yba.ntmps18
  go_wp2
  go_end0
  exact ⟨rfl, rfl⟩

theorem loadU64_c (a : Addr) (x : Int) (w : World) (hc : w.cell? a = some (.int .u64 x)) :
    Calls Yba.prog 11 #[.pointer (some a)] w fun e w' => e = .returned (.int .u64 x) ∧ w' = w := by
  have h := run_call_load (P := Yba.prog) Yba.func27 (by kernel_rfl) (by kernel_rfl) (by kernel_rfl) .u64 (by kernel_rfl) hc
  go_enter Yba.func11, Yba.ntmps11
  go_wp2
  go_ret
  exact ⟨rfl, rfl⟩
theorem loadI32_c (a : Addr) (x : Int) (w : World) (hc : w.cell? a = some (.int .i32 x)) :
    Calls Yba.prog 15 #[.pointer (some a)] w fun e w' => e = .returned (.int .i32 x) ∧ w' = w := by
  have h := run_call_load (P := Yba.prog) Yba.func32 (by kernel_rfl) (by kernel_rfl) (by kernel_rfl) .i32 (by kernel_rfl) hc
  go_enter Yba.func15, Yba.ntmps15
  go_wp2
  go_ret
  exact ⟨rfl, rfl⟩
theorem loadI64_c (a : Addr) (x : Int) (w : World) (hc : w.cell? a = some (.int .i64 x)) :
    Calls Yba.prog 9 #[.pointer (some a)] w fun e w' => e = .returned (.int .i64 x) ∧ w' = w := by
  have h := run_call_load (P := Yba.prog) Yba.func25 (by kernel_rfl) (by kernel_rfl) (by kernel_rfl) .i64 (by kernel_rfl) hc
  go_enter Yba.func9, Yba.ntmps9
  go_wp2
  go_ret
  exact ⟨rfl, rfl⟩
theorem loadU32_c (a : Addr) (x : Int) (w : World) (hc : w.cell? a = some (.int .u32 x)) :
    Calls Yba.prog 10 #[.pointer (some a)] w fun e w' => e = .returned (.int .u32 x) ∧ w' = w := by
  have h := run_call_load (P := Yba.prog) Yba.func26 (by kernel_rfl) (by kernel_rfl) (by kernel_rfl) .u32 (by kernel_rfl) hc
  go_enter Yba.func10, Yba.ntmps10
  go_wp2
  go_ret
  exact ⟨rfl, rfl⟩

theorem addI32_c (a : Addr) (x y : Int) (w : World) (hc : w.cell? a = some (.int .i32 x)) (hz : w.frozen? a = false) :
    Calls Yba.prog 30 #[.pointer (some a), .int .i32 y] w fun e w' => e = .returned (.int .i32 (wrap32 (x + y))) ∧ w' = w.setCell a (.int .i32 (wrap32 (x + y))) := by
  have h := run_call_add (P := Yba.prog) Yba.func41 (by kernel_rfl) (by kernel_rfl) (by kernel_rfl) .i32 (by kernel_rfl) (y := y) (s := wrap32 (x + y)) hc hz (by simp [go_sem, wrap32, IntKind.wrap_i32])
  go_enter Yba.func30, Yba.ntmps30
  go_wp2
  go_ret
  exact ⟨rfl, rfl⟩

/-! ### atomic.Pointer[Task] -/
theorem run_storePtr {a : Addr} {p : Option Addr} {u : Value} {w : World} (hc : w.cell? a = some u) (hz : w.frozen? a = false) :
    (callFunc 36 #[.pointer (some a), .pointer p]).run Yba.prog w = .ok (.value (.tuple #[])) (w.setCell a (.pointer p)) := by
  rw [run_callFunc_extern Yba.func36 (by kernel_rfl) (by kernel_rfl) (by kernel_rfl) (e := Extern.Atomic.storeT) (by kernel_rfl)]
  change (Sem.run Yba.prog (do
    store (← asAddr (.pointer (some a))) (.pointer p) .atomic
    pure Extern.Atomic.none_) w).andThen _ = _
  simp [asAddr, hc, hz, run_store Yba.prog w a (.pointer p) .atomic rfl, Result.andThen, Extern.Atomic.none_]
theorem run_loadPtr {a : Addr} {p : Option Addr} {w : World} (hc : w.cell? a = some (.pointer p)) :
    (callFunc 39 #[.pointer (some a)]).run Yba.prog w = .ok (.value (.pointer p)) w := by
  rw [run_callFunc_extern Yba.func39 (by kernel_rfl) (by kernel_rfl) (by kernel_rfl) (e := Extern.Atomic.loadT .ptr) (by kernel_rfl)]
  change (Sem.run Yba.prog (do Extern.Atomic.read .ptr (← asAddr (.pointer (some a)))) w).andThen _ = _
  simp [Extern.Atomic.read, asAddr, hc, Result.andThen]
theorem run_from_unsafe {g : Nat} {cs : Array Value} {w : World} (hc : w.heap[g]? = some (.cells cs 101)) (hs : cs.size = 2) :
    (convert 71 69 (.pointer (some ⟨g, 0, none⟩))).run Yba.prog w = .ok (.pointer (some ⟨g, 0, none⟩)) w := by
  have hl : liesAt Yba.prog Yba.prog.depth 101 (2 / Yba.prog.cellsOf 101) 0 101 1 = true := by kernel_rfl
  have hsh : w.shape? g = some (101, 2) := by unfold World.shape?; simp [hc, hs]
  simp [convert, Conv.unsafePointer, Conv.seenAt, viewAt, variablesAt, hsh, hl, Result.andThen, run_underlying Yba.underlying71, run_underlying Yba.underlying69]
theorem run_from_unsafe_nil (w : World) : (convert 71 69 (.pointer none)).run Yba.prog w = .ok (.pointer none) w := by
  simp [convert, Conv.unsafePointer, Result.andThen, run_underlying Yba.underlying71, run_underlying Yba.underlying69]

theorem storePtr_c (a : Addr) (g : Nat) (cs : Array Value) (u : Value) (w : World) (hc : w.cell? a = some u) (hz : w.frozen? a = false) (hg : w.heap[g]? = some (.cells cs 101)) (hs : cs.size = 2) :
    Calls Yba.prog 19 #[.pointer (some a), .pointer (some ⟨g, 0, none⟩)] w fun e w' => e = .returned (.tuple #[]) ∧ w' = w.setCell a (.pointer (some ⟨g, 0, none⟩)) := by
  have h := run_storePtr (p := some ⟨g, 0, none⟩) hc hz
  have hgc : w.cell? ⟨g, 0, none⟩ = some (cs[0]'(by omega)) := by simp [World.cell?, hg, hs]
  have hcv := run_convert_to_unsafe (P := Yba.prog) Yba.underlying69 Yba.underlying71 (by kernel_rfl) hgc
  go_enter Yba.func19, Yba.ntmps19
  go_wp2
  go_end0
  exact ⟨rfl, rfl⟩
theorem loadPtr_nil_c (a : Addr) (w : World) (hc : w.cell? a = some (.pointer none)) :
    Calls Yba.prog 23 #[.pointer (some a)] w fun e w' => e = .returned (.pointer none) ∧ w' = w := by
  have h := run_loadPtr hc
  have hcv := run_from_unsafe_nil w
  go_enter Yba.func23, Yba.ntmps23
  go_wp2
  go_ret
  exact ⟨rfl, rfl⟩
theorem loadPtr_c (a : Addr) (g : Nat) (cs : Array Value) (w : World) (hc : w.cell? a = some (.pointer (some ⟨g, 0, none⟩))) (hg : w.heap[g]? = some (.cells cs 101)) (hs : cs.size = 2) :
    Calls Yba.prog 23 #[.pointer (some a)] w fun e w' => e = .returned (.pointer (some ⟨g, 0, none⟩)) ∧ w' = w := by
  have h := run_loadPtr hc
  have hcv := run_from_unsafe hg hs
  go_enter Yba.func23, Yba.ntmps23
  go_wp2
  go_ret
  exact ⟨rfl, rfl⟩

/-! ### the lock -/
abbrev muLink : Go.Conc.Locks.MuLink := { lock := 20, unlock := 21, ilock := 37, iunlock := 38, lockSlow := 46, unlockSlow := 48, disable := 42, enable := 44, acquire := 45, relMerge := 47, cas32 := 43, add32 := 41, tMutex := 52, tIMutex := 50, tPMutex := 125, tPIMutex := 129, tPI32 := 115, tUP := 71, tNoCopy := 48, tU32 := 34 }
theorem muLib : Go.Conc.Locks.MuLib Yba.prog muLink :=
  ⟨Yba.func20, Yba.func21, Yba.func37, Yba.func38, Yba.func42, Yba.func44, Yba.func45, Yba.func47, Yba.func43, Yba.func41, Yba.underlying50, Yba.runUnderlying50, Yba.sizeOf50, Yba.isAgg50, Yba.zeroValue50, Yba.underlying52, Yba.runUnderlying52, Yba.sizeOf52, Yba.isAgg52, Yba.zeroValue52, Yba.underlying125, Yba.runUnderlying125, Yba.sizeOf125, Yba.isAgg125, Yba.zeroValue125, Yba.underlying129, Yba.runUnderlying129, Yba.sizeOf129, Yba.isAgg129, Yba.zeroValue129, Yba.underlying115, Yba.runUnderlying115, Yba.sizeOf115, Yba.isAgg115, Yba.zeroValue115, Yba.underlying71, Yba.runUnderlying71, Yba.sizeOf71, Yba.isAgg71, Yba.zeroValue71, Yba.underlying48, Yba.runUnderlying48, Yba.sizeOf48, Yba.isAgg48, Yba.zeroValue48, Yba.underlying21, Yba.runUnderlying21, Yba.sizeOf21, Yba.isAgg21, Yba.zeroValue21, (by kernel_rfl)⟩
theorem lock_c (a : Addr) (w : World) (hc : w.cell? a = some (.int .i32 0)) (hz : w.frozen? a = false) :
    Calls Yba.prog 20 #[.pointer (some a)] w fun e w' => e = .returned (.tuple #[]) ∧ w' = w.setCell a (.int .i32 1) := Go.MuLone.lock_free muLib a w hc hz
theorem unlock_c (a : Addr) (w : World) (hc : w.cell? a = some (.int .i32 1)) (hz : w.frozen? a = false) :
    Calls Yba.prog 21 #[.pointer (some a)] w fun e w' => e = .returned (.tuple #[]) ∧ w' = w.setCell a (.int .i32 0) := Go.MuLone.unlock_held muLib a w hc hz

/-! ### localLen, stretchesIn, started -/
def stretch (h : Int) : Int := IntKind.u64.wrap (h + 3) / 4
end Go.Proofs.Ybulkgrw

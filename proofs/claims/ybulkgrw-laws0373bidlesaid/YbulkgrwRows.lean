/-
  No cell of these rows narrows 'for every input' (looked for: loops, veiled, ifaces, maps, wideKeys, modest, calm, conditions, laid).
  DERIVED. THE GIVEN ROWS OF THIS SEAT. 3 by the template 'for every input the law returns true; each argument reads behind the call as it read before'; 0 by the template 'total and deterministic' (their statements: YbulkgrwTotals.lean).
  GIVEN WITH THE SEED: the statements are not yours to turn. If you find one false, say at which input.
  Laid BY PROGRAM, IN A SANDBOX (cutbox-rows.mjs): the forced cells as the released guide's own fill.sh prints them over the translation 2b56f4c0145a77bd… (all of the seat's roots in one cut). By AI agents, Wed Nov 11 2026. No macro, syntax, notation, axiom, sorry.
-/
import Derived.Test.YbulkgrwChecked
import GoSem.Claim
import GoSem.ClaimJoined
import GoSem.ClaimMapViews
import Derived.JoinedTies
import Derived.KernelRfl
namespace Go.Proofs.Ybulkgrw
/- THE CELL 'sum', in the pinned program and in every row, IS THE sha256 OF THE DUMP (.gsa) THAT YbulkgrwProg.lean LOADS. Nothing in Lean hashes anything: it is a label: what it is worth is what the hold of that sum in a sandbox is worth. -/
noncomputable def Yba.pinned : Pinned := { name := "ybulkgrw", sum := "2b56f4c0145a77bd34104bae3665da3ac89068e7f2a69ecc239486ac193b085c", checked := Yba.checked }
namespace Rows
def none {H : Type} : Left H := { results := [], args := [] }

/-- 'hungry-threads.LawS0373AExact': WHATEVER THE INPUT: true; the input reads as it did. -/
def lawS0373AExactSpec : ChangeSpec := { name := "lawS0373AExact", fn := fun _ => fun
  | [d1, d2] => { results := [.lit (.bool true)], args := [d1, d2] }
  | _ => none }
def lawS0373AExactRow : OpenClaim := { program := "ybulkgrw", sum := "2b56f4c0145a77bd34104bae3665da3ac89068e7f2a69ecc239486ac193b085c", func := "example.com/hungry-threads/hungry-threads.LawS0373AExact", spec := "lawS0373AExact", inPlace := ["sync/atomic.StoreUint64", "sync/atomic.StoreInt32", "sync/atomic.StoreInt64", "sync/atomic.StoreUint32", "sync/atomic.StorePointer", "sync/atomic.LoadUint64", "sync/atomic.LoadInt32", "(*internal/sync.Mutex).Lock", "internal/race.Disable", "sync/atomic.CompareAndSwapInt32", "internal/race.Enable", "internal/race.Acquire", "(*internal/sync.Mutex).lockSlow", "internal/sync.runtime_canSpin", "internal/sync.runtime_doSpin", "internal/sync.throw", "internal/sync.runtime_nanotime", "internal/sync.runtime_SemacquireMutex", "sync/atomic.AddInt32", "sync/atomic.LoadInt64", "(*internal/sync.Mutex).Unlock", "internal/race.ReleaseMerge", "(*internal/sync.Mutex).unlockSlow", "internal/sync.fatal", "internal/sync.runtime_Semrelease", "sync/atomic.LoadUint32", "sync/atomic.LoadPointer"], apart := false }
def LawS0373AExactSaid : Prop := lawS0373AExactRow.holds Yba.pinned (OpenSpec.ofChange lawS0373AExactSpec)

/-- ITS FALSE NEIGHBOUR: 'it returns false'. Refute it at one input. -/
def lawS0373AExactWrong : ChangeSpec := { name := "lawS0373AExact", fn := fun _ => fun
  | [d1, d2] => { results := [.lit (.bool false)], args := [d1, d2] }
  | _ => none }
def LawS0373AExactWrongFalsely : Prop := lawS0373AExactRow.holds Yba.pinned (OpenSpec.ofChange lawS0373AExactWrong)

/-- 'hungry-threads.LawS0373ARepeat': WHATEVER THE INPUT: true; the input reads as it did. -/
def lawS0373ARepeatSpec : ChangeSpec := { name := "lawS0373ARepeat", fn := fun _ => fun
  | [d1, d2] => { results := [.lit (.bool true)], args := [d1, d2] }
  | _ => none }
def lawS0373ARepeatRow : OpenClaim := { program := "ybulkgrw", sum := "2b56f4c0145a77bd34104bae3665da3ac89068e7f2a69ecc239486ac193b085c", func := "example.com/hungry-threads/hungry-threads.LawS0373ARepeat", spec := "lawS0373ARepeat", inPlace := ["sync/atomic.StoreUint64", "sync/atomic.StoreInt32", "sync/atomic.StoreInt64", "sync/atomic.StoreUint32", "sync/atomic.StorePointer", "sync/atomic.LoadUint64", "sync/atomic.LoadInt32", "(*internal/sync.Mutex).Lock", "internal/race.Disable", "sync/atomic.CompareAndSwapInt32", "internal/race.Enable", "internal/race.Acquire", "(*internal/sync.Mutex).lockSlow", "internal/sync.runtime_canSpin", "internal/sync.runtime_doSpin", "internal/sync.throw", "internal/sync.runtime_nanotime", "internal/sync.runtime_SemacquireMutex", "sync/atomic.AddInt32", "sync/atomic.LoadInt64", "(*internal/sync.Mutex).Unlock", "internal/race.ReleaseMerge", "(*internal/sync.Mutex).unlockSlow", "internal/sync.fatal", "internal/sync.runtime_Semrelease", "sync/atomic.LoadUint32", "sync/atomic.LoadPointer"], apart := false }
def LawS0373ARepeatSaid : Prop := lawS0373ARepeatRow.holds Yba.pinned (OpenSpec.ofChange lawS0373ARepeatSpec)

/-- ITS FALSE NEIGHBOUR: 'it returns false'. Refute it at one input. -/
def lawS0373ARepeatWrong : ChangeSpec := { name := "lawS0373ARepeat", fn := fun _ => fun
  | [d1, d2] => { results := [.lit (.bool false)], args := [d1, d2] }
  | _ => none }
def LawS0373ARepeatWrongFalsely : Prop := lawS0373ARepeatRow.holds Yba.pinned (OpenSpec.ofChange lawS0373ARepeatWrong)

/-- 'hungry-threads.LawS0373BIdle': WHATEVER THE INPUT: true; the input reads as it did. -/
def lawS0373BIdleSpec : ChangeSpec := { name := "lawS0373BIdle", fn := fun _ => fun
  | [d1, d2, d3, d4, d5, d6, d7, d8] => { results := [.lit (.bool true)], args := [d1, d2, d3, d4, d5, d6, d7, d8] }
  | _ => none }
def lawS0373BIdleRow : OpenClaim := { program := "ybulkgrw", sum := "2b56f4c0145a77bd34104bae3665da3ac89068e7f2a69ecc239486ac193b085c", func := "example.com/hungry-threads/hungry-threads.LawS0373BIdle", spec := "lawS0373BIdle", inPlace := ["sync/atomic.StoreInt32", "sync/atomic.AddInt32", "sync/atomic.LoadInt32"], apart := false }
def LawS0373BIdleSaid : Prop := lawS0373BIdleRow.holds Yba.pinned (OpenSpec.ofChange lawS0373BIdleSpec)

/-- ITS FALSE NEIGHBOUR: 'it returns false'. Refute it at one input. -/
def lawS0373BIdleWrong : ChangeSpec := { name := "lawS0373BIdle", fn := fun _ => fun
  | [d1, d2, d3, d4, d5, d6, d7, d8] => { results := [.lit (.bool false)], args := [d1, d2, d3, d4, d5, d6, d7, d8] }
  | _ => none }
def LawS0373BIdleWrongFalsely : Prop := lawS0373BIdleRow.holds Yba.pinned (OpenSpec.ofChange lawS0373BIdleWrong)

end Rows
end Go.Proofs.Ybulkgrw

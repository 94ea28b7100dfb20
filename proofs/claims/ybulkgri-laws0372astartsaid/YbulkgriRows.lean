/-
  No cell of these rows narrows 'for every input' (looked for: loops, veiled, ifaces, maps, wideKeys, modest, calm, conditions, laid).
  DERIVED. THE GIVEN ROWS OF THIS SEAT. 3 by the template 'for every input the law returns true; each argument reads behind the call as it read before'; 0 by the template 'total and deterministic' (their statements: YbulkgriTotals.lean).
  GIVEN WITH THE SEED: the statements are not yours to turn. If you find one false, say at which input.
  Laid BY PROGRAM, IN A SANDBOX (cutbox-rows.mjs): the forced cells as the released guide's own fill.sh prints them over the translation 3f5b7e386b0f8326… (all of the seat's roots in one cut). By AI agents, Wed Nov 11 2026. No macro, syntax, notation, axiom, sorry.
-/
import Derived.Test.YbulkgriChecked
import GoSem.Claim
import GoSem.ClaimJoined
import GoSem.ClaimMapViews
import Derived.JoinedTies
import Derived.KernelRfl
namespace Go.Proofs.Ybulkgri
/- THE CELL 'sum', in the pinned program and in every row, IS THE sha256 OF THE DUMP (.gsa) THAT YbulkgriProg.lean LOADS. Nothing in Lean hashes anything: it is a label: what it is worth is what the hold of that sum in a sandbox is worth. -/
noncomputable def Yba.pinned : Pinned := { name := "ybulkgri", sum := "3f5b7e386b0f832609b2f9fc1bcf931b9e63d418a457eeb62c16143b98cb9bca", checked := Yba.checked }
namespace Rows
def none {H : Type} : Left H := { results := [], args := [] }

/-- 'capture.LawS0372AStart': WHATEVER THE INPUT: true; the input reads as it did. -/
def lawS0372AStartSpec : ChangeSpec := { name := "lawS0372AStart", fn := fun _ => fun
  | [d] => { results := [.lit (.bool true)], args := [d] }
  | _ => none }
def lawS0372AStartRow : OpenClaim := { program := "ybulkgri", sum := "3f5b7e386b0f832609b2f9fc1bcf931b9e63d418a457eeb62c16143b98cb9bca", func := "example.com/tunnelweave/tunnelweave/capture.LawS0372AStart", spec := "lawS0372AStart", apart := false }
def LawS0372AStartSaid : Prop := lawS0372AStartRow.holds Yba.pinned (OpenSpec.ofChange lawS0372AStartSpec)

/-- ITS FALSE NEIGHBOUR: 'it returns false'. Refute it at one input. -/
def lawS0372AStartWrong : ChangeSpec := { name := "lawS0372AStart", fn := fun _ => fun
  | [d] => { results := [.lit (.bool false)], args := [d] }
  | _ => none }
def LawS0372AStartWrongFalsely : Prop := lawS0372AStartRow.holds Yba.pinned (OpenSpec.ofChange lawS0372AStartWrong)

/-- 'gtpv1.LawS0372BWalk': WHATEVER THE INPUT: true; the input reads as it did. -/
def lawS0372BWalkSpec : ChangeSpec := { name := "lawS0372BWalk", fn := fun _ => fun
  | [d1, d2, d3] => { results := [.lit (.bool true)], args := [d1, d2, d3] }
  | _ => none }
def lawS0372BWalkRow : OpenClaim := { program := "ybulkgri", sum := "3f5b7e386b0f832609b2f9fc1bcf931b9e63d418a457eeb62c16143b98cb9bca", func := "example.com/tunnelweave/tunnelweave/gtpv1.LawS0372BWalk", spec := "lawS0372BWalk", unfollowed := true, recurses := true, apart := false }
def LawS0372BWalkSaid : Prop := lawS0372BWalkRow.holds Yba.pinned (OpenSpec.ofChange lawS0372BWalkSpec)

/-- ITS FALSE NEIGHBOUR: 'it returns false'. Refute it at one input. -/
def lawS0372BWalkWrong : ChangeSpec := { name := "lawS0372BWalk", fn := fun _ => fun
  | [d1, d2, d3] => { results := [.lit (.bool false)], args := [d1, d2, d3] }
  | _ => none }
def LawS0372BWalkWrongFalsely : Prop := lawS0372BWalkRow.holds Yba.pinned (OpenSpec.ofChange lawS0372BWalkWrong)

/-- 'gtpv1.LawS0372BStop': WHATEVER THE INPUT: true; the input reads as it did. -/
def lawS0372BStopSpec : ChangeSpec := { name := "lawS0372BStop", fn := fun _ => fun
  | [d1, d2] => { results := [.lit (.bool true)], args := [d1, d2] }
  | _ => none }
def lawS0372BStopRow : OpenClaim := { program := "ybulkgri", sum := "3f5b7e386b0f832609b2f9fc1bcf931b9e63d418a457eeb62c16143b98cb9bca", func := "example.com/tunnelweave/tunnelweave/gtpv1.LawS0372BStop", spec := "lawS0372BStop", unfollowed := true, recurses := true, apart := false }
def LawS0372BStopSaid : Prop := lawS0372BStopRow.holds Yba.pinned (OpenSpec.ofChange lawS0372BStopSpec)

/-- ITS FALSE NEIGHBOUR: 'it returns false'. Refute it at one input. -/
def lawS0372BStopWrong : ChangeSpec := { name := "lawS0372BStop", fn := fun _ => fun
  | [d1, d2] => { results := [.lit (.bool false)], args := [d1, d2] }
  | _ => none }
def LawS0372BStopWrongFalsely : Prop := lawS0372BStopRow.holds Yba.pinned (OpenSpec.ofChange lawS0372BStopWrong)

end Rows
end Go.Proofs.Ybulkgri

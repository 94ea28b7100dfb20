/-
  No cell of these rows narrows 'for every input' (looked for: loops, veiled, ifaces, maps, wideKeys, modest, calm, conditions, laid).
  DERIVED. THE GIVEN ROWS OF THIS SEAT. 2 by the template 'for every input the law returns true; each argument reads behind the call as it read before'; 0 by the template 'total and deterministic' (their statements: YbulkhdsTotals.lean).
  GIVEN WITH THE SEED: the statements are not yours to turn. If you find one false, say at which input.
  Laid BY PROGRAM, IN A SANDBOX (cutbox-rows.mjs): the forced cells as the released guide's own fill.sh prints them over the translation 1551a3f214ff561d… (all of the seat's roots in one cut). By AI agents, Wed Nov 11 2026. No macro, syntax, notation, axiom, sorry.
-/
import Derived.Test.YbulkhdsChecked
import GoSem.Claim
import GoSem.ClaimJoined
import GoSem.ClaimMapViews
import Derived.JoinedTies
import Derived.KernelRfl
namespace Go.Proofs.Ybulkhds
/- THE CELL 'sum', in the pinned program and in every row, IS THE sha256 OF THE DUMP (.gsa) THAT YbulkhdsProg.lean LOADS. Nothing in Lean hashes anything: it is a label: what it is worth is what the hold of that sum in a sandbox is worth. -/
noncomputable def Yba.pinned : Pinned := { name := "ybulkhds", sum := "1551a3f214ff561d97fe53a77622c4bbf7dfd3dce6715a7d686e3121f9bcd84e", checked := Yba.checked }
namespace Rows
def none {H : Type} : Left H := { results := [], args := [] }

/-- 'testcase.LawS0395AModel': WHATEVER THE INPUT: true; the input reads as it did. -/
def lawS0395AModelSpec : ChangeSpec := { name := "lawS0395AModel", fn := fun _ => fun
  | [d] => { results := [.lit (.bool true)], args := [d] }
  | _ => none }
def lawS0395AModelRow : OpenClaim := { program := "ybulkhds", sum := "1551a3f214ff561d97fe53a77622c4bbf7dfd3dce6715a7d686e3121f9bcd84e", func := "example.com/nasproof/nasproof/testcase.LawS0395AModel", spec := "lawS0395AModel", apart := false }
def LawS0395AModelSaid : Prop := lawS0395AModelRow.holds Yba.pinned (OpenSpec.ofChange lawS0395AModelSpec)

/-- ITS FALSE NEIGHBOUR: 'it returns false'. Refute it at one input. -/
def lawS0395AModelWrong : ChangeSpec := { name := "lawS0395AModel", fn := fun _ => fun
  | [d] => { results := [.lit (.bool false)], args := [d] }
  | _ => none }
def LawS0395AModelWrongFalsely : Prop := lawS0395AModelRow.holds Yba.pinned (OpenSpec.ofChange lawS0395AModelWrong)

/-- 'testcase.LawS0395ADoubled': WHATEVER THE INPUT: true; the input reads as it did. -/
def lawS0395ADoubledSpec : ChangeSpec := { name := "lawS0395ADoubled", fn := fun _ => fun
  | [d] => { results := [.lit (.bool true)], args := [d] }
  | _ => none }
def lawS0395ADoubledRow : OpenClaim := { program := "ybulkhds", sum := "1551a3f214ff561d97fe53a77622c4bbf7dfd3dce6715a7d686e3121f9bcd84e", func := "example.com/nasproof/nasproof/testcase.LawS0395ADoubled", spec := "lawS0395ADoubled", apart := false }
def LawS0395ADoubledSaid : Prop := lawS0395ADoubledRow.holds Yba.pinned (OpenSpec.ofChange lawS0395ADoubledSpec)

/-- ITS FALSE NEIGHBOUR: 'it returns false'. Refute it at one input. -/
def lawS0395ADoubledWrong : ChangeSpec := { name := "lawS0395ADoubled", fn := fun _ => fun
  | [d] => { results := [.lit (.bool false)], args := [d] }
  | _ => none }
def LawS0395ADoubledWrongFalsely : Prop := lawS0395ADoubledRow.holds Yba.pinned (OpenSpec.ofChange lawS0395ADoubledWrong)

end Rows
end Go.Proofs.Ybulkhds

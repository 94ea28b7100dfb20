/-
  No cell of these rows narrows 'for every input' (looked for: loops, veiled, ifaces, maps, wideKeys, modest, calm, conditions, laid).
  DERIVED. THE GIVEN ROWS OF THIS SEAT. 2 by the template 'for every input the law returns true; each argument reads behind the call as it read before'; 0 by the template 'total and deterministic' (their statements: YbulkgqgFmtTotals.lean).
  GIVEN WITH THE SEED: the statements are not yours to turn. If you find one false, say at which input.
  Laid BY PROGRAM, IN A SANDBOX (cutbox-rows.mjs): the forced cells as the released guide's own fill.sh prints them over the translation 0756c4fbb6261363… (all of the seat's roots in one cut). By AI agents, Wed Nov 11 2026. No macro, syntax, notation, axiom, sorry.
-/
import Derived.Test.YbulkgqgFmtChecked
import GoSem.Claim
import GoSem.ClaimJoined
import GoSem.ClaimMapViews
import Derived.JoinedTies
import Derived.KernelRfl
namespace Go.Proofs.YbulkgqgFmt
/- THE CELL 'sum', in the pinned program and in every row, IS THE sha256 OF THE DUMP (.gsa) THAT YbulkgqgFmtProg.lean LOADS. Nothing in Lean hashes anything: it is a label: what it is worth is what the hold of that sum in a sandbox is worth. -/
noncomputable def Ybaf.pinned : Pinned := { name := "ybulkgqgfmt", sum := "0756c4fbb6261363a3c331fe24659ed174da5254bb417969e9f9b9ad4e8e736b", checked := Ybaf.checked }
namespace Rows
def none {H : Type} : Left H := { results := [], args := [] }

/-- 'giop.LawS0370CAgreesWithNewDecoder': WHATEVER THE INPUT: true; the input reads as it did. -/
def lawS0370CAgreesWithNewDecoderSpec : ChangeSpec := { name := "lawS0370CAgreesWithNewDecoder", fn := fun _ => fun
  | [d1, d2, d3, d4, d5, d6] => { results := [.lit (.bool true)], args := [d1, d2, d3, d4, d5, d6] }
  | _ => none }
def lawS0370CAgreesWithNewDecoderRow : OpenClaim := { program := "ybulkgqgfmt", sum := "0756c4fbb6261363a3c331fe24659ed174da5254bb417969e9f9b9ad4e8e736b", func := "example.com/typewire/typewire/giop.LawS0370CAgreesWithNewDecoder", spec := "lawS0370CAgreesWithNewDecoder", stops := ["fmt.errorf", "fmt.Sprintf"], inPlace := ["fmt.Sprintf", "fmt.errorf"], named := ["encoding/binary.LittleEndian", "encoding/binary.BigEndian"], apart := false }
/-- NO THEOREM (fmt's text is open here; it may be false): for the released tool's asking of the row's closed facts alone. THE STATEMENT IS 'LawS0370CAgreesWithNewDecoderToldSaid' (YbulkgqgFmtCards.lean). -/
def LawS0370CAgreesWithNewDecoderFormAsk : Prop := lawS0370CAgreesWithNewDecoderRow.holds Ybaf.pinned (OpenSpec.ofChange lawS0370CAgreesWithNewDecoderSpec)

/-- ITS FALSE NEIGHBOUR: 'it returns false'. Refute it at one input. -/
def lawS0370CAgreesWithNewDecoderWrong : ChangeSpec := { name := "lawS0370CAgreesWithNewDecoder", fn := fun _ => fun
  | [d1, d2, d3, d4, d5, d6] => { results := [.lit (.bool false)], args := [d1, d2, d3, d4, d5, d6] }
  | _ => none }
def LawS0370CAgreesWithNewDecoderWrongFormAsk : Prop := lawS0370CAgreesWithNewDecoderRow.holds Ybaf.pinned (OpenSpec.ofChange lawS0370CAgreesWithNewDecoderWrong)

/-- 'giop.LawS0370CFreshEachCall': WHATEVER THE INPUT: true; the input reads as it did. -/
def lawS0370CFreshEachCallSpec : ChangeSpec := { name := "lawS0370CFreshEachCall", fn := fun _ => fun
  | [d1, d2, d3] => { results := [.lit (.bool true)], args := [d1, d2, d3] }
  | _ => none }
def lawS0370CFreshEachCallRow : OpenClaim := { program := "ybulkgqgfmt", sum := "0756c4fbb6261363a3c331fe24659ed174da5254bb417969e9f9b9ad4e8e736b", func := "example.com/typewire/typewire/giop.LawS0370CFreshEachCall", spec := "lawS0370CFreshEachCall", stops := ["fmt.errorf", "fmt.Sprintf"], inPlace := ["fmt.Sprintf", "fmt.errorf"], named := ["encoding/binary.LittleEndian", "encoding/binary.BigEndian"], apart := false }
/-- NO THEOREM (fmt's text is open here; it may be false): for the released tool's asking of the row's closed facts alone. THE STATEMENT IS 'LawS0370CFreshEachCallToldSaid' (YbulkgqgFmtCards.lean). -/
def LawS0370CFreshEachCallFormAsk : Prop := lawS0370CFreshEachCallRow.holds Ybaf.pinned (OpenSpec.ofChange lawS0370CFreshEachCallSpec)

/-- ITS FALSE NEIGHBOUR: 'it returns false'. Refute it at one input. -/
def lawS0370CFreshEachCallWrong : ChangeSpec := { name := "lawS0370CFreshEachCall", fn := fun _ => fun
  | [d1, d2, d3] => { results := [.lit (.bool false)], args := [d1, d2, d3] }
  | _ => none }
def LawS0370CFreshEachCallWrongFormAsk : Prop := lawS0370CFreshEachCallRow.holds Ybaf.pinned (OpenSpec.ofChange lawS0370CFreshEachCallWrong)

end Rows
end Go.Proofs.YbulkgqgFmt

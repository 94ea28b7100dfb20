/-
  DERIVED. GIVEN WITH THE SEED: THE CARDS: each row of YbulkgqgFmtRows.lean that lists a variable, with what it lists TIED to the program's text (the seventh form; the later family's looks); each row that meets fmt, with fmt's text TOLD by the authors' own Lean function (tested against real Go, not proved from fmt's source: count such statements apart). THE CARD IS WHAT COUNTS. Prove the row's statement (the work); the ties are given (YbulkgqgFmtTie.lean); close each card by the builder's one call (the guide's Derived/Test/ToyasCard.lean, 'card_holds'). Laid BY PROGRAM, IN A SANDBOX (cutbox-door.mjs). By AI agents, Wed Nov 11 2026. No macro, syntax, notation, axiom, sorry.
-/
import Derived.Test.YbulkgqgFmtRows
import GoSem.ClaimSeven
namespace Go.Proofs.YbulkgqgFmt
namespace Rows

/-- THE TOLD CARD OF 'giop.LawS0370CAgreesWithNewDecoder'. -/
def lawS0370CAgreesWithNewDecoderCard : Claim7 := { stood := { row := lawS0370CAgreesWithNewDecoderRow, standIns := [], harness := (true, "1f7f05ceec2d38a35745fb617c27867438ea1fd8d8b3cf593c6b5f256293f762"), looks := false }, told := true, goes := false }
def LawS0370CAgreesWithNewDecoderToldSaid : Prop := Claim7.holds Ybaf.pinned (.plain (OpenSpec.ofChange lawS0370CAgreesWithNewDecoderSpec)) lawS0370CAgreesWithNewDecoderCard
/-- ITS FALSE NEIGHBOUR. Refute it at one input. -/
def LawS0370CAgreesWithNewDecoderToldWrongFalsely : Prop := Claim7.holds Ybaf.pinned (.plain (OpenSpec.ofChange lawS0370CAgreesWithNewDecoderWrong)) lawS0370CAgreesWithNewDecoderCard

/-- THE TOLD CARD OF 'giop.LawS0370CFreshEachCall'. -/
def lawS0370CFreshEachCallCard : Claim7 := { stood := { row := lawS0370CFreshEachCallRow, standIns := [], harness := (true, "1f7f05ceec2d38a35745fb617c27867438ea1fd8d8b3cf593c6b5f256293f762"), looks := false }, told := true, goes := false }
def LawS0370CFreshEachCallToldSaid : Prop := Claim7.holds Ybaf.pinned (.plain (OpenSpec.ofChange lawS0370CFreshEachCallSpec)) lawS0370CFreshEachCallCard
/-- ITS FALSE NEIGHBOUR. Refute it at one input. -/
def LawS0370CFreshEachCallToldWrongFalsely : Prop := Claim7.holds Ybaf.pinned (.plain (OpenSpec.ofChange lawS0370CFreshEachCallWrong)) lawS0370CFreshEachCallCard
end Rows
end Go.Proofs.YbulkgqgFmt

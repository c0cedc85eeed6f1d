/-
  DERIVED. GIVEN WITH THE SEED: THE CARDS: each row of YbulkdhrwFmtRows.lean that lists a variable, with what it lists TIED to the program's text (the seventh form; the later family's looks); each row that meets fmt, with fmt's text TOLD by the authors' own Lean function (tested against real Go, not proved from fmt's source: count such statements apart). THE CARD IS WHAT COUNTS. Prove the row's statement (the work); the ties are given (YbulkdhrwFmtTie.lean); close each card by the builder's one call (the guide's Derived/Test/ToyasCard.lean, 'card_holds'). Laid BY PROGRAM, IN A SANDBOX (cutbox-door.mjs). By AI agents, Wed Nov 11 2026. No macro, syntax, notation, axiom, sorry.
-/
import Derived.Test.YbulkdhrwFmtRows
import GoSem.ClaimSeven
namespace Go.Proofs.YbulkdhrwFmt
namespace Rows

/-- THE TOLD AND TIED CARD OF 'cbor.LawS5443BWhole'. -/
def lawS5443BWholeCard : Claim7 := { stood := { row := lawS5443BWholeRow, standIns := [], harness := (true, "86ea993e05d87772042ebd17ad4de5ff9c35e92848d06a3378bcf101a89ef485"), looks := true }, told := true, laidByText := true, laidKinds := [.sentinel, .sentinel, .sentinel], laidTests := true, laidLooks := .later, goes := false }
def LawS5443BWholeToldSaid : Prop := Claim7.holds Ybaf.pinned (.plain (OpenSpec.ofChange lawS5443BWholeSpec)) lawS5443BWholeCard
/-- ITS FALSE NEIGHBOUR. Refute it at one input. -/
def LawS5443BWholeToldWrongFalsely : Prop := Claim7.holds Ybaf.pinned (.plain (OpenSpec.ofChange lawS5443BWholeWrong)) lawS5443BWholeCard

/-- THE TOLD AND TIED CARD OF 'rains.LawS5443CPart'. -/
def lawS5443CPartCard : Claim7 := { stood := { row := lawS5443CPartRow, standIns := [], harness := (true, "86ea993e05d87772042ebd17ad4de5ff9c35e92848d06a3378bcf101a89ef485"), looks := true }, told := true, laidByText := true, laidKinds := [.data], laidTests := true, laidLooks := .later, goes := false }
def LawS5443CPartToldSaid : Prop := Claim7.holds Ybaf.pinned (.plain (OpenSpec.ofChange lawS5443CPartSpec)) lawS5443CPartCard
/-- ITS FALSE NEIGHBOUR. Refute it at one input. -/
def LawS5443CPartToldWrongFalsely : Prop := Claim7.holds Ybaf.pinned (.plain (OpenSpec.ofChange lawS5443CPartWrong)) lawS5443CPartCard
end Rows
end Go.Proofs.YbulkdhrwFmt

/-
  DERIVED. GIVEN WITH THE SEED: THE CARDS: each row of YbulkdhvqFmtRows.lean that lists a variable, with what it lists TIED to the program's text (the seventh form; the later family's looks); each row that meets fmt, with fmt's text TOLD by the authors' own Lean function (tested against real Go, not proved from fmt's source: count such statements apart). THE CARD IS WHAT COUNTS. Prove the row's statement (the work); the ties are given (YbulkdhvqFmtTie.lean); close each card by the builder's one call (the guide's Derived/Test/ToyasCard.lean, 'card_holds'). Laid BY PROGRAM, IN A SANDBOX (cutbox-door.mjs). By AI agents, Wed Nov 11 2026. No macro, syntax, notation, axiom, sorry.
-/
import Derived.Test.YbulkdhvqFmtRows
import GoSem.ClaimSeven
namespace Go.Proofs.YbulkdhvqFmt
namespace Rows

/-- THE TOLD AND TIED CARD OF 'sccp.LawS5450AWhole'. -/
def lawS5450AWholeCard : Claim7 := { stood := { row := lawS5450AWholeRow, standIns := [], harness := (true, "5d2c04b96b39e8afcf0aa4a4ccbe674fec082da02e9e54decfeaca7c2efb0c5f"), looks := false }, told := true, laidByText := true, laidKinds := [.data, .mapped], laidTests := true, laidLooks := .later, goes := false }
def LawS5450AWholeToldSaid : Prop := Claim7.holds Ybaf.pinned (.plain (OpenSpec.ofChange lawS5450AWholeSpec)) lawS5450AWholeCard
/-- ITS FALSE NEIGHBOUR. Refute it at one input. -/
def LawS5450AWholeToldWrongFalsely : Prop := Claim7.holds Ybaf.pinned (.plain (OpenSpec.ofChange lawS5450AWholeWrong)) lawS5450AWholeCard

/-- THE TOLD AND TIED CARD OF 'sccp.LawS5450CPart'. -/
def lawS5450CPartCard : Claim7 := { stood := { row := lawS5450CPartRow, standIns := [], harness := (true, "5d2c04b96b39e8afcf0aa4a4ccbe674fec082da02e9e54decfeaca7c2efb0c5f"), looks := false }, told := true, laidByText := true, laidKinds := [.data], laidTests := true, laidLooks := .later, goes := false }
def LawS5450CPartToldSaid : Prop := Claim7.holds Ybaf.pinned (.plain (OpenSpec.ofChange lawS5450CPartSpec)) lawS5450CPartCard
/-- ITS FALSE NEIGHBOUR. Refute it at one input. -/
def LawS5450CPartToldWrongFalsely : Prop := Claim7.holds Ybaf.pinned (.plain (OpenSpec.ofChange lawS5450CPartWrong)) lawS5450CPartCard
end Rows
end Go.Proofs.YbulkdhvqFmt

/-
  No cell of these rows narrows 'for every input' (looked for: loops, veiled, ifaces, maps, wideKeys, modest, calm, conditions, laid).
  DERIVED. THE GIVEN ROWS OF THIS SEAT. 1 by the template 'for every input the law returns true; each argument reads behind the call as it read before'; 0 by the template 'total and deterministic' (their statements: YbulkdhvqTotals.lean).
  GIVEN WITH THE SEED: the statements are not yours to turn. If you find one false, say at which input.
  Laid BY PROGRAM, IN A SANDBOX (cutbox-rows.mjs): the forced cells as the released guide's own fill.sh prints them over the translation a4442ba65f388f95… (all of the seat's roots in one cut). By AI agents, Wed Nov 11 2026. No macro, syntax, notation, axiom, sorry.
-/
import Derived.Test.YbulkdhvqChecked
import GoSem.Claim
import GoSem.ClaimJoined
import GoSem.ClaimMapViews
import Derived.JoinedTies
import Derived.KernelRfl
namespace Go.Proofs.Ybulkdhvq
/- THE CELL 'sum', in the pinned program and in every row, IS THE sha256 OF THE DUMP (.gsa) THAT YbulkdhvqProg.lean LOADS. Nothing in Lean hashes anything: it is a label: what it is worth is what the hold of that sum in a sandbox is worth. -/
noncomputable def Yba.pinned : Pinned := { name := "ybulkdhvq", sum := "a4442ba65f388f9542cdd33b417c98b4b8f47df5cb9142aaf41fdadd426ec578", checked := Yba.checked }
namespace Rows
def none {H : Type} : Left H := { results := [], args := [] }

/-- 'sua.LawS5450BWhole': WHATEVER THE INPUT: true; the input reads as it did. -/
def lawS5450BWholeSpec : ChangeSpec := { name := "lawS5450BWhole", fn := fun _ => fun
  | [d1, d2, d3, d4] => { results := [.lit (.bool true)], args := [d1, d2, d3, d4] }
  | _ => none }
def lawS5450BWholeRow : OpenClaim := { program := "ybulkdhvq", sum := "a4442ba65f388f9542cdd33b417c98b4b8f47df5cb9142aaf41fdadd426ec578", func := "example.com/pointcode/pointcode/sua.LawS5450BWhole", spec := "lawS5450BWhole", apart := false }
def LawS5450BWholeSaid : Prop := lawS5450BWholeRow.holds Yba.pinned (OpenSpec.ofChange lawS5450BWholeSpec)

/-- ITS FALSE NEIGHBOUR: 'it returns false'. Refute it at one input. -/
def lawS5450BWholeWrong : ChangeSpec := { name := "lawS5450BWhole", fn := fun _ => fun
  | [d1, d2, d3, d4] => { results := [.lit (.bool false)], args := [d1, d2, d3, d4] }
  | _ => none }
def LawS5450BWholeWrongFalsely : Prop := lawS5450BWholeRow.holds Yba.pinned (OpenSpec.ofChange lawS5450BWholeWrong)

end Rows
end Go.Proofs.Ybulkdhvq

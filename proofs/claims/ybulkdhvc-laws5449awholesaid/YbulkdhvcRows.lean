/-
  No cell of these rows narrows 'for every input' (looked for: loops, veiled, ifaces, maps, wideKeys, modest, calm, conditions, laid).
  DERIVED. THE GIVEN ROWS OF THIS SEAT. 2 by the template 'for every input the law returns true; each argument reads behind the call as it read before'; 0 by the template 'total and deterministic' (their statements: YbulkdhvcTotals.lean).
  GIVEN WITH THE SEED: the statements are not yours to turn. If you find one false, say at which input.
  Laid BY PROGRAM, IN A SANDBOX (cutbox-rows.mjs): the forced cells as the released guide's own fill.sh prints them over the translation f36aa8a5b526be7f… (all of the seat's roots in one cut). By AI agents, Wed Nov 11 2026. No macro, syntax, notation, axiom, sorry.
-/
import Derived.Test.YbulkdhvcChecked
import GoSem.Claim
import GoSem.ClaimJoined
import GoSem.ClaimMapViews
import Derived.JoinedTies
import Derived.KernelRfl
namespace Go.Proofs.Ybulkdhvc
/- THE CELL 'sum', in the pinned program and in every row, IS THE sha256 OF THE DUMP (.gsa) THAT YbulkdhvcProg.lean LOADS. Nothing in Lean hashes anything: it is a label: what it is worth is what the hold of that sum in a sandbox is worth. -/
noncomputable def Yba.pinned : Pinned := { name := "ybulkdhvc", sum := "f36aa8a5b526be7f7e870f3c58666302473a4b91343b3d986397790127256f86", checked := Yba.checked }
namespace Rows
def none {H : Type} : Left H := { results := [], args := [] }

/-- 'wirescribe.LawS5449AWhole': WHATEVER THE INPUT: true; the input reads as it did. -/
def lawS5449AWholeSpec : ChangeSpec := { name := "lawS5449AWhole", fn := fun _ => fun
  | [d1, d2, d3, d4, d5, d6, d7] => { results := [.lit (.bool true)], args := [d1, d2, d3, d4, d5, d6, d7] }
  | _ => none }
def lawS5449AWholeRow : OpenClaim := { program := "ybulkdhvc", sum := "f36aa8a5b526be7f7e870f3c58666302473a4b91343b3d986397790127256f86", func := "example.com/wirescribe/wirescribe.LawS5449AWhole", spec := "lawS5449AWhole", named := ["encoding/binary.LittleEndian"], apart := false }
def LawS5449AWholeSaid : Prop := lawS5449AWholeRow.holds Yba.pinned (OpenSpec.ofChange lawS5449AWholeSpec)

/-- ITS FALSE NEIGHBOUR: 'it returns false'. Refute it at one input. -/
def lawS5449AWholeWrong : ChangeSpec := { name := "lawS5449AWhole", fn := fun _ => fun
  | [d1, d2, d3, d4, d5, d6, d7] => { results := [.lit (.bool false)], args := [d1, d2, d3, d4, d5, d6, d7] }
  | _ => none }
def LawS5449AWholeWrongFalsely : Prop := lawS5449AWholeRow.holds Yba.pinned (OpenSpec.ofChange lawS5449AWholeWrong)

/-- 'wirescribe.LawS5449BWhole': WHATEVER THE INPUT: true; the input reads as it did. -/
def lawS5449BWholeSpec : ChangeSpec := { name := "lawS5449BWhole", fn := fun _ => fun
  | [d] => { results := [.lit (.bool true)], args := [d] }
  | _ => none }
def lawS5449BWholeRow : OpenClaim := { program := "ybulkdhvc", sum := "f36aa8a5b526be7f7e870f3c58666302473a4b91343b3d986397790127256f86", func := "example.com/wirescribe/wirescribe.LawS5449BWhole", spec := "lawS5449BWhole", named := ["encoding/binary.BigEndian"], apart := false }
def LawS5449BWholeSaid : Prop := lawS5449BWholeRow.holds Yba.pinned (OpenSpec.ofChange lawS5449BWholeSpec)

/-- ITS FALSE NEIGHBOUR: 'it returns false'. Refute it at one input. -/
def lawS5449BWholeWrong : ChangeSpec := { name := "lawS5449BWhole", fn := fun _ => fun
  | [d] => { results := [.lit (.bool false)], args := [d] }
  | _ => none }
def LawS5449BWholeWrongFalsely : Prop := lawS5449BWholeRow.holds Yba.pinned (OpenSpec.ofChange lawS5449BWholeWrong)

end Rows
end Go.Proofs.Ybulkdhvc

/-
  NARROWER THAN 'FOR EVERY INPUT', by the rows' own cells (each row's printed sentence says how): LawS5450AWhole: maps, laid · LawS5450CPart: laid.
  DERIVED. THE GIVEN ROWS OF THIS SEAT. 2 by the template 'for every input the law returns true; each argument reads behind the call as it read before'; 0 by the template 'total and deterministic' (their statements: YbulkdhvqFmtTotals.lean).
  GIVEN WITH THE SEED: the statements are not yours to turn. If you find one false, say at which input.
  Laid BY PROGRAM, IN A SANDBOX (cutbox-rows.mjs): the forced cells as the released guide's own fill.sh prints them over the translation a5b515d66182eb97… (all of the seat's roots in one cut). By AI agents, Wed Nov 11 2026. No macro, syntax, notation, axiom, sorry.
-/
import Derived.Test.YbulkdhvqFmtChecked
import GoSem.Claim
import GoSem.ClaimJoined
import GoSem.ClaimMapViews
import Derived.JoinedTies
import Derived.KernelRfl
namespace Go.Proofs.YbulkdhvqFmt
/- THE CELL 'sum', in the pinned program and in every row, IS THE sha256 OF THE DUMP (.gsa) THAT YbulkdhvqFmtProg.lean LOADS. Nothing in Lean hashes anything: it is a label: what it is worth is what the hold of that sum in a sandbox is worth. -/
noncomputable def Ybaf.pinned : Pinned := { name := "ybulkdhvqfmt", sum := "a5b515d66182eb975ef7baba456d27cf01b601e583f9bfaa1f61c7b25f58c5e9", checked := Ybaf.checked }
namespace Rows
def none {H : Type} : Left H := { results := [], args := [] }

/- WHAT THE LISTED PACKAGE-LEVEL VARIABLES READ AS WHEN THE CALL BEGINS. Each datum BY PROGRAM (the guide's laid-datum.mjs) off the statement by which the dump's own 'gosem.cut.vars' lays the variable. In a bare row this is a premise. The card (YbulkdhvqFmtCards.lean) ties it to the program's text. -/
def laid_example_com_pointcode_pointcode_sccp_globalTitleFormats {H : Type} : DataW H := .agg [.agg [.lit (.bool false), .lit (.bool false), .lit (.bool false)], .agg [.lit (.bool false), .lit (.bool false), .lit (.bool true)], .agg [.lit (.bool true), .lit (.bool false), .lit (.bool false)], .agg [.lit (.bool true), .lit (.bool true), .lit (.bool false)], .agg [.lit (.bool true), .lit (.bool true), .lit (.bool true)]]
def laid_example_com_pointcode_pointcode_sccp_params {H : Type} : DataW H := .map [(.int .u8 1, .agg [.lit (.string [100, 101, 115, 116, 105, 110, 97, 116, 105, 111, 110, 32, 108, 111, 99, 97, 108, 32, 114, 101, 102, 101, 114, 101, 110, 99, 101]), .lit (.int .i64 3)]), (.int .u8 2, .agg [.lit (.string [115, 111, 117, 114, 99, 101, 32, 108, 111, 99, 97, 108, 32, 114, 101, 102, 101, 114, 101, 110, 99, 101]), .lit (.int .i64 3)]), (.int .u8 3, .agg [.lit (.string [99, 97, 108, 108, 101, 100, 32, 112, 97, 114, 116, 121, 32, 97, 100, 100, 114, 101, 115, 115]), .lit (.int .i64 0)]), (.int .u8 4, .agg [.lit (.string [99, 97, 108, 108, 105, 110, 103, 32, 112, 97, 114, 116, 121, 32, 97, 100, 100, 114, 101, 115, 115]), .lit (.int .i64 0)]), (.int .u8 5, .agg [.lit (.string [112, 114, 111, 116, 111, 99, 111, 108, 32, 99, 108, 97, 115, 115]), .lit (.int .i64 1)]), (.int .u8 6, .agg [.lit (.string [115, 101, 103, 109, 101, 110, 116, 105, 110, 103, 47, 114, 101, 97, 115, 115, 101, 109, 98, 108, 105, 110, 103]), .lit (.int .i64 1)]), (.int .u8 7, .agg [.lit (.string [114, 101, 99, 101, 105, 118, 101, 32, 115, 101, 113, 117, 101, 110, 99, 101, 32, 110, 117, 109, 98, 101, 114]), .lit (.int .i64 1)]), (.int .u8 8, .agg [.lit (.string [115, 101, 113, 117, 101, 110, 99, 105, 110, 103, 47, 115, 101, 103, 109, 101, 110, 116, 105, 110, 103]), .lit (.int .i64 2)]), (.int .u8 9, .agg [.lit (.string [99, 114, 101, 100, 105, 116]), .lit (.int .i64 1)]), (.int .u8 10, .agg [.lit (.string [114, 101, 108, 101, 97, 115, 101, 32, 99, 97, 117, 115, 101]), .lit (.int .i64 1)]), (.int .u8 11, .agg [.lit (.string [114, 101, 116, 117, 114, 110, 32, 99, 97, 117, 115, 101]), .lit (.int .i64 1)]), (.int .u8 12, .agg [.lit (.string [114, 101, 115, 101, 116, 32, 99, 97, 117, 115, 101]), .lit (.int .i64 1)]), (.int .u8 13, .agg [.lit (.string [101, 114, 114, 111, 114, 32, 99, 97, 117, 115, 101]), .lit (.int .i64 1)]), (.int .u8 14, .agg [.lit (.string [114, 101, 102, 117, 115, 97, 108, 32, 99, 97, 117, 115, 101]), .lit (.int .i64 1)]), (.int .u8 15, .agg [.lit (.string [100, 97, 116, 97]), .lit (.int .i64 0)]), (.int .u8 16, .agg [.lit (.string [115, 101, 103, 109, 101, 110, 116, 97, 116, 105, 111, 110]), .lit (.int .i64 4)]), (.int .u8 17, .agg [.lit (.string [104, 111, 112, 32, 99, 111, 117, 110, 116, 101, 114]), .lit (.int .i64 1)]), (.int .u8 18, .agg [.lit (.string [105, 109, 112, 111, 114, 116, 97, 110, 99, 101]), .lit (.int .i64 1)]), (.int .u8 19, .agg [.lit (.string [108, 111, 110, 103, 32, 100, 97, 116, 97]), .lit (.int .i64 0)])]
def laid_example_com_pointcode_pointcode_sccp_managementNames {H : Type} : DataW H := .agg [.lit (.string []), .lit (.string [83, 83, 65]), .lit (.string [83, 83, 80]), .lit (.string [83, 83, 84]), .lit (.string [83, 79, 82]), .lit (.string [83, 79, 71]), .lit (.string [83, 83, 67])]

/-- 'sccp.LawS5450AWhole': WHATEVER THE INPUT: true; the input reads as it did. -/
def lawS5450AWholeSpec : ChangeSpec := { name := "lawS5450AWhole", vars := ["example.com/pointcode/pointcode/sccp.params", "example.com/pointcode/pointcode/sccp.formats", "example.com/pointcode/pointcode/sccp.globalTitleFormats"], fn := fun _ => fun
  | [d1, d2, d3, d4, d5, d6, d7, g1, g2, g3] => { results := [.lit (.bool true)], args := [d1, d2, d3, d4, d5, d6, d7], vars := [g1, g2, g3] }
  | _ => none }
def lawS5450AWholeRow : OpenClaim := { program := "ybulkdhvqfmt", sum := "a5b515d66182eb975ef7baba456d27cf01b601e583f9bfaa1f61c7b25f58c5e9", func := "example.com/pointcode/pointcode/sccp.LawS5450AWhole", spec := "lawS5450AWhole", stops := ["fmt.Sprintf", "fmt.errorf, its operands' methods called"], inPlace := ["fmt.errorf", "internal/abi.NoEscape", "internal/bytealg.MakeNoZero"], unfollowed := true, recurses := true, named := ["example.com/pointcode/pointcode/sccp.params", "example.com/pointcode/pointcode/sccp.formats", "example.com/pointcode/pointcode/sccp.globalTitleFormats"], maps := true, apart := false, laid := [("example.com/pointcode/pointcode/sccp.globalTitleFormats", laid_example_com_pointcode_pointcode_sccp_globalTitleFormats), ("example.com/pointcode/pointcode/sccp.params", laid_example_com_pointcode_pointcode_sccp_params)] }
/-- NO THEOREM (fmt's text is open here; it may be false): for the released tool's asking of the row's closed facts alone. THE STATEMENT IS 'LawS5450AWholeToldSaid' (YbulkdhvqFmtCards.lean). -/
def LawS5450AWholeFormAsk : Prop := lawS5450AWholeRow.holds Ybaf.pinned (OpenSpec.ofChange lawS5450AWholeSpec)

/-- ITS FALSE NEIGHBOUR: 'it returns false'. Refute it at one input. -/
def lawS5450AWholeWrong : ChangeSpec := { name := "lawS5450AWhole", vars := ["example.com/pointcode/pointcode/sccp.params", "example.com/pointcode/pointcode/sccp.formats", "example.com/pointcode/pointcode/sccp.globalTitleFormats"], fn := fun _ => fun
  | [d1, d2, d3, d4, d5, d6, d7, g1, g2, g3] => { results := [.lit (.bool false)], args := [d1, d2, d3, d4, d5, d6, d7], vars := [g1, g2, g3] }
  | _ => none }
def LawS5450AWholeWrongFormAsk : Prop := lawS5450AWholeRow.holds Ybaf.pinned (OpenSpec.ofChange lawS5450AWholeWrong)

/-- 'sccp.LawS5450CPart': WHATEVER THE INPUT: true; the input reads as it did. -/
def lawS5450CPartSpec : ChangeSpec := { name := "lawS5450CPart", vars := ["example.com/pointcode/pointcode/sccp.managementNames"], fn := fun _ => fun
  | [d, g1] => { results := [.lit (.bool true)], args := [d], vars := [g1] }
  | _ => none }
def lawS5450CPartRow : OpenClaim := { program := "ybulkdhvqfmt", sum := "a5b515d66182eb975ef7baba456d27cf01b601e583f9bfaa1f61c7b25f58c5e9", func := "example.com/pointcode/pointcode/sccp.LawS5450CPart", spec := "lawS5450CPart", stops := ["fmt.Sprintf", "fmt.errorf, its operands' methods called"], inPlace := ["fmt.Sprintf"], named := ["example.com/pointcode/pointcode/sccp.managementNames"], apart := false, laid := [("example.com/pointcode/pointcode/sccp.managementNames", laid_example_com_pointcode_pointcode_sccp_managementNames)] }
/-- NO THEOREM (fmt's text is open here; it may be false): for the released tool's asking of the row's closed facts alone. THE STATEMENT IS 'LawS5450CPartToldSaid' (YbulkdhvqFmtCards.lean). -/
def LawS5450CPartFormAsk : Prop := lawS5450CPartRow.holds Ybaf.pinned (OpenSpec.ofChange lawS5450CPartSpec)

/-- ITS FALSE NEIGHBOUR: 'it returns false'. Refute it at one input. -/
def lawS5450CPartWrong : ChangeSpec := { name := "lawS5450CPart", vars := ["example.com/pointcode/pointcode/sccp.managementNames"], fn := fun _ => fun
  | [d, g1] => { results := [.lit (.bool false)], args := [d], vars := [g1] }
  | _ => none }
def LawS5450CPartWrongFormAsk : Prop := lawS5450CPartRow.holds Ybaf.pinned (OpenSpec.ofChange lawS5450CPartWrong)

end Rows
end Go.Proofs.YbulkdhvqFmt

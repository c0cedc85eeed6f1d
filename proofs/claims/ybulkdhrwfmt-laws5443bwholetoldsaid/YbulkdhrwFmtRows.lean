/-
  NARROWER THAN 'FOR EVERY INPUT', by the rows' own cells (each row's printed sentence says how): LawS5443BWhole: ifaces, laid · LawS5443CPart: laid.
  DERIVED. THE GIVEN ROWS OF THIS SEAT. 2 by the template 'for every input the law returns true; each argument reads behind the call as it read before'; 0 by the template 'total and deterministic' (their statements: YbulkdhrwFmtTotals.lean).
  GIVEN WITH THE SEED: the statements are not yours to turn. If you find one false, say at which input.
  Laid BY PROGRAM, IN A SANDBOX (cutbox-rows.mjs): the forced cells as the released guide's own fill.sh prints them over the translation 4be529bd32033be8… (all of the seat's roots in one cut). By AI agents, Wed Nov 11 2026. No macro, syntax, notation, axiom, sorry.
-/
import Derived.Test.YbulkdhrwFmtChecked
import GoSem.Claim
import GoSem.ClaimJoined
import GoSem.ClaimMapViews
import Derived.JoinedTies
import Derived.KernelRfl
namespace Go.Proofs.YbulkdhrwFmt
/- THE CELL 'sum', in the pinned program and in every row, IS THE sha256 OF THE DUMP (.gsa) THAT YbulkdhrwFmtProg.lean LOADS. Nothing in Lean hashes anything: it is a label: what it is worth is what the hold of that sum in a sandbox is worth. -/
noncomputable def Ybaf.pinned : Pinned := { name := "ybulkdhrwfmt", sum := "4be529bd32033be86bea74db6ff864ddab81d356de610120d0a0e1ad27f94e98", checked := Ybaf.checked }
namespace Rows
def none {H : Type} : Left H := { results := [], args := [] }

/- WHAT THE LISTED PACKAGE-LEVEL VARIABLES READ AS WHEN THE CALL BEGINS. Each datum BY PROGRAM (the guide's laid-datum.mjs) off the statement by which the dump's own 'gosem.cut.vars' lays the variable. In a bare row this is a premise. The card (YbulkdhrwFmtCards.lean) ties it to the program's text. -/
def laid_io_EOF {H : Type} : DataW H := .iface "*errors.errorString" (.ptr (.agg [.lit (.string [69, 79, 70])]))
def laid_io_ErrUnexpectedEOF {H : Type} : DataW H := .iface "*errors.errorString" (.ptr (.agg [.lit (.string [117, 110, 101, 120, 112, 101, 99, 116, 101, 100, 32, 69, 79, 70])]))
def laid_example_com_resolvent_resolvent_pkg_cbor_ErrTooLarge {H : Type} : DataW H := .iface "*errors.errorString" (.ptr (.agg [.lit (.string [99, 98, 111, 114, 58, 32, 100, 97, 116, 97, 32, 105, 116, 101, 109, 32, 101, 120, 99, 101, 101, 100, 115, 32, 116, 104, 101, 32, 115, 105, 122, 101, 32, 108, 105, 109, 105, 116])]))
def laid_example_com_resolvent_resolvent_pkg_rains_objectTypeNames {H : Type} : DataW H := .agg [.lit (.string []), .lit (.string [110, 97, 109, 101]), .lit (.string [105, 112, 54, 45, 97, 100, 100, 114]), .lit (.string [105, 112, 52, 45, 97, 100, 100, 114]), .lit (.string [114, 101, 100, 105, 114, 101, 99, 116, 105, 111, 110]), .lit (.string [100, 101, 108, 101, 103, 97, 116, 105, 111, 110]), .lit (.string [110, 97, 109, 101, 115, 101, 116]), .lit (.string [99, 101, 114, 116, 45, 105, 110, 102, 111]), .lit (.string [115, 101, 114, 118, 105, 99, 101, 45, 105, 110, 102, 111]), .lit (.string [114, 101, 103, 105, 115, 116, 114, 97, 114]), .lit (.string [114, 101, 103, 105, 115, 116, 114, 97, 110, 116]), .lit (.string [105, 110, 102, 114, 97, 107, 101, 121]), .lit (.string [101, 120, 116, 114, 97, 107, 101, 121]), .lit (.string [110, 101, 120, 116, 107, 101, 121])]

/-- 'cbor.LawS5443BWhole': WHATEVER THE INPUT: true; the input reads as it did. -/
def lawS5443BWholeSpec : ChangeSpec := { name := "lawS5443BWhole", vars := ["example.com/resolvent/resolvent/pkg/cbor.ErrTooLarge"], fn := fun _ => fun
  | [d1, d2, d3, d4, g1] => { results := [.lit (.bool true)], args := [d1, d2, d3, d4], vars := [g1] }
  | _ => none }
def lawS5443BWholeRow : OpenClaim := { program := "ybulkdhrwfmt", sum := "4be529bd32033be86bea74db6ff864ddab81d356de610120d0a0e1ad27f94e98", func := "example.com/resolvent/resolvent/pkg/cbor.LawS5443BWhole", spec := "lawS5443BWhole", stops := ["fmt.errorf", "fmt.Sprintf"], inPlace := ["fmt.errorf"], unfollowed := true, recurses := true, named := ["example.com/resolvent/resolvent/pkg/cbor.ErrTooLarge", "io.ErrUnexpectedEOF", "encoding/binary.BigEndian", "io.EOF"], ifaces := true, apart := false, laid := [("io.EOF", laid_io_EOF), ("io.ErrUnexpectedEOF", laid_io_ErrUnexpectedEOF), ("example.com/resolvent/resolvent/pkg/cbor.ErrTooLarge", laid_example_com_resolvent_resolvent_pkg_cbor_ErrTooLarge)] }
/-- NO THEOREM (fmt's text is open here; it may be false): for the released tool's asking of the row's closed facts alone. THE STATEMENT IS 'LawS5443BWholeToldSaid' (YbulkdhrwFmtCards.lean). -/
def LawS5443BWholeFormAsk : Prop := lawS5443BWholeRow.holds Ybaf.pinned (OpenSpec.ofChange lawS5443BWholeSpec)

/-- ITS FALSE NEIGHBOUR: 'it returns false'. Refute it at one input. -/
def lawS5443BWholeWrong : ChangeSpec := { name := "lawS5443BWhole", vars := ["example.com/resolvent/resolvent/pkg/cbor.ErrTooLarge"], fn := fun _ => fun
  | [d1, d2, d3, d4, g1] => { results := [.lit (.bool false)], args := [d1, d2, d3, d4], vars := [g1] }
  | _ => none }
def LawS5443BWholeWrongFormAsk : Prop := lawS5443BWholeRow.holds Ybaf.pinned (OpenSpec.ofChange lawS5443BWholeWrong)

/-- 'rains.LawS5443CPart': WHATEVER THE INPUT: true; the input reads as it did. -/
def lawS5443CPartSpec : ChangeSpec := { name := "lawS5443CPart", vars := ["example.com/resolvent/resolvent/pkg/rains.objectTypeNames"], fn := fun _ => fun
  | [d, g1] => { results := [.lit (.bool true)], args := [d], vars := [g1] }
  | _ => none }
def lawS5443CPartRow : OpenClaim := { program := "ybulkdhrwfmt", sum := "4be529bd32033be86bea74db6ff864ddab81d356de610120d0a0e1ad27f94e98", func := "example.com/resolvent/resolvent/pkg/rains.LawS5443CPart", spec := "lawS5443CPart", stops := ["fmt.errorf", "fmt.Sprintf"], inPlace := ["fmt.Sprintf", "internal/abi.NoEscape", "internal/bytealg.MakeNoZero"], named := ["example.com/resolvent/resolvent/pkg/rains.objectTypeNames"], apart := false, laid := [("example.com/resolvent/resolvent/pkg/rains.objectTypeNames", laid_example_com_resolvent_resolvent_pkg_rains_objectTypeNames)] }
/-- NO THEOREM (fmt's text is open here; it may be false): for the released tool's asking of the row's closed facts alone. THE STATEMENT IS 'LawS5443CPartToldSaid' (YbulkdhrwFmtCards.lean). -/
def LawS5443CPartFormAsk : Prop := lawS5443CPartRow.holds Ybaf.pinned (OpenSpec.ofChange lawS5443CPartSpec)

/-- ITS FALSE NEIGHBOUR: 'it returns false'. Refute it at one input. -/
def lawS5443CPartWrong : ChangeSpec := { name := "lawS5443CPart", vars := ["example.com/resolvent/resolvent/pkg/rains.objectTypeNames"], fn := fun _ => fun
  | [d, g1] => { results := [.lit (.bool false)], args := [d], vars := [g1] }
  | _ => none }
def LawS5443CPartWrongFormAsk : Prop := lawS5443CPartRow.holds Ybaf.pinned (OpenSpec.ofChange lawS5443CPartWrong)

end Rows
end Go.Proofs.YbulkdhrwFmt

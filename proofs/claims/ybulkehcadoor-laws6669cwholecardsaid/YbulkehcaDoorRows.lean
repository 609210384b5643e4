/-
  NARROWER THAN 'FOR EVERY INPUT', by the rows' own cells (each row's printed sentence says how): LawS6669BWhole: laid · LawS6669BBuilt: laid · LawS6669CWhole: laid.
  DERIVED. THE GIVEN ROWS OF THIS SEAT. 3 by the template 'for every input the law returns true; each argument reads behind the call as it read before'; 0 by the template 'total and deterministic' (their statements: YbulkehcaDoorTotals.lean).
  GIVEN WITH THE SEED: the statements are not yours to turn. If you find one false, say at which input.
  Laid BY PROGRAM, IN A SANDBOX (cutbox-rows.mjs): the forced cells as the released guide's own fill.sh prints them over the translation 3abe2b7cf30a75f2… (all of the seat's roots in one cut). By AI agents, Wed Nov 11 2026. No macro, syntax, notation, axiom, sorry.
-/
import Derived.Test.YbulkehcaDoorChecked
import GoSem.PinnedTables
import GoSem.Claim
import GoSem.ClaimJoined
import GoSem.ClaimMapViews
import Derived.JoinedTies
import Derived.KernelRfl
namespace Go.Proofs.YbulkehcaDoor
/- THE CELL 'sum', in the pinned program and in every row, IS THE sha256 OF THE DUMP (.gsa) THAT YbulkehcaDoorProg.lean LOADS. Nothing in Lean hashes anything: it is a label: what it is worth is what the hold of that sum in a sandbox is worth. -/
noncomputable def Ybad.pinned : Pinned := { name := "ybulkehcadoor", sum := "3abe2b7cf30a75f2f8628e757a7a0e5a5dcbc1656b8aee30426ca8faa955952a", checked := Ybad.checked }
namespace Rows
def none {H : Type} : Left H := { results := [], args := [] }

/- WHAT THE LISTED PACKAGE-LEVEL VARIABLES READ AS WHEN THE CALL BEGINS. Each datum BY PROGRAM (the guide's laid-datum.mjs) off the statement by which the dump's own 'gosem.cut.vars' lays the variable. In a bare row this is a premise. The card (YbulkehcaDoorCards.lean) ties it to the program's text. -/
def laid_unicode_utf8_acceptRanges {H : Type} : DataW H := .agg [.agg [.lit (.int .u8 128), .lit (.int .u8 191)], .agg [.lit (.int .u8 160), .lit (.int .u8 191)], .agg [.lit (.int .u8 128), .lit (.int .u8 159)], .agg [.lit (.int .u8 144), .lit (.int .u8 191)], .agg [.lit (.int .u8 128), .lit (.int .u8 143)], .agg [.lit (.int .u8 0), .lit (.int .u8 0)], .agg [.lit (.int .u8 0), .lit (.int .u8 0)], .agg [.lit (.int .u8 0), .lit (.int .u8 0)], .agg [.lit (.int .u8 0), .lit (.int .u8 0)], .agg [.lit (.int .u8 0), .lit (.int .u8 0)], .agg [.lit (.int .u8 0), .lit (.int .u8 0)], .agg [.lit (.int .u8 0), .lit (.int .u8 0)], .agg [.lit (.int .u8 0), .lit (.int .u8 0)], .agg [.lit (.int .u8 0), .lit (.int .u8 0)], .agg [.lit (.int .u8 0), .lit (.int .u8 0)], .agg [.lit (.int .u8 0), .lit (.int .u8 0)]]
/-- One of Go's own tables, pinned by name: the form's constant. -/
def laid_unicode_utf8_first : DataW Unit := Go.Pinned.utf8First
def laid_io_EOF {H : Type} : DataW H := .iface "*errors.errorString" (.ptr (.agg [.lit (.string [69, 79, 70])]))
def laid_bufio_errNegativeRead {H : Type} : DataW H := .iface "*errors.errorString" (.ptr (.agg [.lit (.string [98, 117, 102, 105, 111, 58, 32, 114, 101, 97, 100, 101, 114, 32, 114, 101, 116, 117, 114, 110, 101, 100, 32, 110, 101, 103, 97, 116, 105, 118, 101, 32, 99, 111, 117, 110, 116, 32, 102, 114, 111, 109, 32, 82, 101, 97, 100])]))

/-- 'returnslip.LawS6669BWhole': WHATEVER THE INPUT: true; the input reads as it did. -/
def lawS6669BWholeSpec : ChangeSpec := { name := "lawS6669BWhole", fn := fun _ => fun
  | [d1, d2] => { results := [.lit (.bool true)], args := [d1, d2] }
  | _ => none }
def lawS6669BWholeRow : OpenClaim := { program := "ybulkehcadoor", sum := "3abe2b7cf30a75f2f8628e757a7a0e5a5dcbc1656b8aee30426ca8faa955952a", func := "example.com/returnslip/returnslip.LawS6669BWhole", spec := "lawS6669BWhole", inPlace := ["internal/bytealg.IndexByteString", "internal/bytealg.IndexString"], named := ["internal/bytealg.MaxLen", "unicode/utf8.first", "unicode/utf8.acceptRanges"], apart := false, laid := [("unicode/utf8.acceptRanges", laid_unicode_utf8_acceptRanges), ("unicode/utf8.first", laid_unicode_utf8_first)] }
def LawS6669BWholeSaid : Prop := lawS6669BWholeRow.holds Ybad.pinned (OpenSpec.ofChange lawS6669BWholeSpec)

/-- ITS FALSE NEIGHBOUR: 'it returns false'. Refute it at one input. -/
def lawS6669BWholeWrong : ChangeSpec := { name := "lawS6669BWhole", fn := fun _ => fun
  | [d1, d2] => { results := [.lit (.bool false)], args := [d1, d2] }
  | _ => none }
def LawS6669BWholeWrongFalsely : Prop := lawS6669BWholeRow.holds Ybad.pinned (OpenSpec.ofChange lawS6669BWholeWrong)

/-- 'returnslip.LawS6669BBuilt': WHATEVER THE INPUT: true; the input reads as it did. -/
def lawS6669BBuiltSpec : ChangeSpec := { name := "lawS6669BBuilt", fn := fun _ => fun
  | [d1, d2, d3, d4, d5] => { results := [.lit (.bool true)], args := [d1, d2, d3, d4, d5] }
  | _ => none }
def lawS6669BBuiltRow : OpenClaim := { program := "ybulkehcadoor", sum := "3abe2b7cf30a75f2f8628e757a7a0e5a5dcbc1656b8aee30426ca8faa955952a", func := "example.com/returnslip/returnslip.LawS6669BBuilt", spec := "lawS6669BBuilt", inPlace := ["internal/bytealg.IndexByteString", "internal/bytealg.IndexString"], named := ["internal/bytealg.MaxLen", "unicode/utf8.first", "unicode/utf8.acceptRanges"], apart := false, laid := [("unicode/utf8.acceptRanges", laid_unicode_utf8_acceptRanges), ("unicode/utf8.first", laid_unicode_utf8_first)] }
def LawS6669BBuiltSaid : Prop := lawS6669BBuiltRow.holds Ybad.pinned (OpenSpec.ofChange lawS6669BBuiltSpec)

/-- ITS FALSE NEIGHBOUR: 'it returns false'. Refute it at one input. -/
def lawS6669BBuiltWrong : ChangeSpec := { name := "lawS6669BBuilt", fn := fun _ => fun
  | [d1, d2, d3, d4, d5] => { results := [.lit (.bool false)], args := [d1, d2, d3, d4, d5] }
  | _ => none }
def LawS6669BBuiltWrongFalsely : Prop := lawS6669BBuiltRow.holds Ybad.pinned (OpenSpec.ofChange lawS6669BBuiltWrong)

/-- 'returnslip.LawS6669CWhole': WHATEVER THE INPUT: true; the input reads as it did. -/
def lawS6669CWholeSpec : ChangeSpec := { name := "lawS6669CWhole", fn := fun _ => fun
  | [d1, d2] => { results := [.lit (.bool true)], args := [d1, d2] }
  | _ => none }
def lawS6669CWholeRow : OpenClaim := { program := "ybulkehcadoor", sum := "3abe2b7cf30a75f2f8628e757a7a0e5a5dcbc1656b8aee30426ca8faa955952a", func := "example.com/returnslip/returnslip.LawS6669CWhole", spec := "lawS6669CWhole", unfollowed := true, recurses := true, named := ["io.EOF", "bufio.errNegativeRead"], apart := false, laid := [("io.EOF", laid_io_EOF), ("bufio.errNegativeRead", laid_bufio_errNegativeRead)] }
def LawS6669CWholeSaid : Prop := lawS6669CWholeRow.holds Ybad.pinned (OpenSpec.ofChange lawS6669CWholeSpec)

/-- ITS FALSE NEIGHBOUR: 'it returns false'. Refute it at one input. -/
def lawS6669CWholeWrong : ChangeSpec := { name := "lawS6669CWhole", fn := fun _ => fun
  | [d1, d2] => { results := [.lit (.bool false)], args := [d1, d2] }
  | _ => none }
def LawS6669CWholeWrongFalsely : Prop := lawS6669CWholeRow.holds Ybad.pinned (OpenSpec.ofChange lawS6669CWholeWrong)

end Rows
end Go.Proofs.YbulkehcaDoor

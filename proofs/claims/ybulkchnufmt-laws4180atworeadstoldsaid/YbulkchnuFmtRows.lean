/-
  NARROWER THAN 'FOR EVERY INPUT', by the rows' own cells (each row's printed sentence says how): LawS4180ATwoReads: ifaces, laid · LawS4180AStuck: ifaces, laid.
  DERIVED. THE GIVEN ROWS OF THIS SEAT. 2 by the template 'for every input the law returns true; each argument reads behind the call as it read before'; 0 by the template 'total and deterministic' (their statements: YbulkchnuFmtTotals.lean).
  GIVEN WITH THE SEED: the statements are not yours to turn. If you find one false, say at which input.
  Laid BY PROGRAM, IN A SANDBOX (cutbox-rows.mjs): the forced cells as the released guide's own fill.sh prints them over the translation 6f2916c56ab75fae… (all of the seat's roots in one cut). By AI agents, Wed Nov 11 2026. No macro, syntax, notation, axiom, sorry.
-/
import Derived.Test.YbulkchnuFmtChecked
import GoSem.Claim
import GoSem.ClaimJoined
import GoSem.ClaimMapViews
import Derived.JoinedTies
import Derived.KernelRfl
namespace Go.Proofs.YbulkchnuFmt
/- THE CELL 'sum', in the pinned program and in every row, IS THE sha256 OF THE DUMP (.gsa) THAT YbulkchnuFmtProg.lean LOADS. Nothing in Lean hashes anything: it is a label: what it is worth is what the hold of that sum in a sandbox is worth. -/
noncomputable def Ybaf.pinned : Pinned := { name := "ybulkchnufmt", sum := "6f2916c56ab75fae033257eb26f4090aa69d285519891382558fa4f95cabe2e3", checked := Ybaf.checked }
namespace Rows
def none {H : Type} : Left H := { results := [], args := [] }

/- WHAT THE LISTED PACKAGE-LEVEL VARIABLES READ AS WHEN THE CALL BEGINS. Each datum BY PROGRAM (the guide's laid-datum.mjs) off the statement by which the dump's own 'gosem.cut.vars' lays the variable. In a bare row this is a premise. The card (YbulkchnuFmtCards.lean) ties it to the program's text. -/
def laid_io_ErrShortBuffer {H : Type} : DataW H := .iface "*errors.errorString" (.ptr (.agg [.lit (.string [115, 104, 111, 114, 116, 32, 98, 117, 102, 102, 101, 114])]))
def laid_io_EOF {H : Type} : DataW H := .iface "*errors.errorString" (.ptr (.agg [.lit (.string [69, 79, 70])]))
def laid_io_ErrUnexpectedEOF {H : Type} : DataW H := .iface "*errors.errorString" (.ptr (.agg [.lit (.string [117, 110, 101, 120, 112, 101, 99, 116, 101, 100, 32, 69, 79, 70])]))
def laid_example_com_holdfast_holdfast_internal_format_formats {H : Type} : DataW H := .slice [.agg [.lit (.string [111, 119, 110, 101, 114, 32, 107, 101, 121]), .lit (.string [72, 70, 45, 79, 75, 69, 89, 10]), .lit (.int .i64 2), .lit (.int .i64 1), .lit (.bool false)], .agg [.lit (.string [109, 101, 116, 97, 100, 97, 116, 97]), .lit (.string [72, 70, 45, 77, 69, 84, 65, 10]), .lit (.int .i64 8), .lit (.int .i64 3), .lit (.bool false)], .agg [.lit (.string [98, 108, 111, 99, 107]), .lit (.string [72, 70, 45, 66, 76, 67, 75, 10]), .lit (.int .i64 3), .lit (.int .i64 1), .lit (.bool false)], .agg [.lit (.string [99, 104, 97, 108, 108, 101, 110, 103, 101]), .lit (.string [72, 70, 45, 67, 72, 65, 76, 10]), .lit (.int .i64 4), .lit (.int .i64 4), .lit (.bool false)], .agg [.lit (.string [118, 101, 114, 105, 102, 105, 101, 114, 32, 115, 116, 97, 116, 101]), .lit (.string [72, 70, 45, 83, 84, 65, 84, 10]), .lit (.int .i64 2), .lit (.int .i64 2), .lit (.bool false)], .agg [.lit (.string [114, 101, 115, 112, 111, 110, 115, 101]), .lit (.string [72, 70, 45, 82, 69, 83, 80, 10]), .lit (.int .i64 3), .lit (.int .i64 3), .lit (.bool false)], .agg [.lit (.string [110, 111, 100, 101, 32, 107, 101, 121]), .lit (.string [72, 70, 45, 78, 75, 69, 89, 10]), .lit (.int .i64 1), .lit (.int .i64 1), .lit (.bool false)], .agg [.lit (.string [112, 117, 98, 108, 105, 99, 32, 107, 101, 121]), .lit (.string [72, 70, 45, 78, 80, 85, 66, 10]), .lit (.int .i64 1), .lit (.int .i64 1), .lit (.bool false)], .agg [.lit (.string [99, 114, 101, 100, 101, 110, 116, 105, 97, 108]), .lit (.string [72, 70, 45, 67, 82, 69, 68, 10]), .lit (.int .i64 2), .lit (.int .i64 1), .lit (.bool false)], .agg [.lit (.string [108, 111, 115, 115, 32, 115, 116, 97, 116, 101, 109, 101, 110, 116]), .lit (.string [72, 70, 45, 76, 79, 83, 83, 10]), .lit (.int .i64 1), .lit (.int .i64 1), .lit (.bool false)], .agg [.lit (.string [114, 101, 112, 97, 105, 114, 32, 111, 114, 100, 101, 114]), .lit (.string [72, 70, 45, 79, 82, 68, 82, 10]), .lit (.int .i64 1), .lit (.int .i64 1), .lit (.bool false)], .agg [.lit (.string [119, 97, 116, 99, 104, 32, 115, 116, 97, 116, 101]), .lit (.string [72, 70, 45, 87, 84, 67, 72, 10]), .lit (.int .i64 1), .lit (.int .i64 1), .lit (.bool false)], .agg [.lit (.string [99, 111, 112, 121, 32, 114, 101, 99, 111, 114, 100]), .lit (.string [72, 70, 45, 67, 82, 69, 67, 10]), .lit (.int .i64 2), .lit (.int .i64 1), .lit (.bool false)], .agg [.lit (.string [99, 104, 97, 108, 108, 101, 110, 103, 101, 32, 109, 97, 114, 107]), .lit (.string [72, 70, 45, 77, 65, 82, 75, 10]), .lit (.int .i64 1), .lit (.int .i64 1), .lit (.bool false)], .agg [.lit (.string [99, 104, 97, 108, 108, 101, 110, 103, 101, 32, 108, 111, 103]), .lit (.string [72, 70, 45, 67, 76, 79, 71, 10]), .lit (.int .i64 1), .lit (.int .i64 1), .lit (.bool false)], .agg [.lit (.string [112, 117, 115, 104, 32, 114, 101, 113, 117, 101, 115, 116]), .lit (.string [72, 70, 45, 80, 85, 83, 72, 10]), .lit (.int .i64 1), .lit (.int .i64 1), .lit (.bool true)], .agg [.lit (.string [112, 114, 111, 111, 102, 32, 114, 101, 113, 117, 101, 115, 116]), .lit (.string [72, 70, 45, 80, 82, 69, 81, 10]), .lit (.int .i64 3), .lit (.int .i64 3), .lit (.bool true)], .agg [.lit (.string [102, 101, 116, 99, 104, 32, 114, 101, 113, 117, 101, 115, 116]), .lit (.string [72, 70, 45, 70, 82, 69, 81, 10]), .lit (.int .i64 2), .lit (.int .i64 2), .lit (.bool true)], .agg [.lit (.string [114, 101, 112, 108, 121]), .lit (.string [72, 70, 45, 82, 80, 76, 89, 10]), .lit (.int .i64 3), .lit (.int .i64 1), .lit (.bool true)], .agg [.lit (.string [115, 105, 103, 110, 101, 100]), .lit (.string [72, 70, 45, 83, 73, 71, 78, 10]), .lit (.int .i64 1), .lit (.int .i64 1), .lit (.bool true)]] []
def laid_example_com_holdfast_holdfast_internal_format_ErrMalformed {H : Type} : DataW H := .iface "*errors.errorString" (.ptr (.agg [.lit (.string [109, 97, 108, 102, 111, 114, 109, 101, 100])]))

/-- 'format.LawS4180ATwoReads': WHATEVER THE INPUT: true; the input reads as it did. -/
def lawS4180ATwoReadsSpec : ChangeSpec := { name := "lawS4180ATwoReads", vars := ["example.com/holdfast/holdfast/internal/format.ErrMalformed", "example.com/holdfast/holdfast/internal/format.formats"], fn := fun _ => fun
  | [d1, d2, d3, g1, g2] => { results := [.lit (.bool true)], args := [d1, d2, d3], vars := [g1, g2] }
  | _ => none }
def lawS4180ATwoReadsRow : OpenClaim := { program := "ybulkchnufmt", sum := "6f2916c56ab75fae033257eb26f4090aa69d285519891382558fa4f95cabe2e3", func := "example.com/holdfast/holdfast/internal/format.LawS4180ATwoReads", spec := "lawS4180ATwoReads", stops := ["fmt.Sprintf", "fmt.errorf"], inPlace := ["internal/reflectlite.TypeOf", "fmt.Sprintf", "fmt.errorf"], unfollowed := true, recurses := true, named := ["example.com/holdfast/holdfast/internal/format.ErrMalformed", "io.EOF", "io.ErrUnexpectedEOF", "io.ErrShortBuffer", "example.com/holdfast/holdfast/internal/format.formats"], ifaces := true, apart := false, laid := [("io.ErrShortBuffer", laid_io_ErrShortBuffer), ("io.EOF", laid_io_EOF), ("io.ErrUnexpectedEOF", laid_io_ErrUnexpectedEOF), ("example.com/holdfast/holdfast/internal/format.formats", laid_example_com_holdfast_holdfast_internal_format_formats), ("example.com/holdfast/holdfast/internal/format.ErrMalformed", laid_example_com_holdfast_holdfast_internal_format_ErrMalformed)] }
/-- NO THEOREM (fmt's text is open here; it may be false): for the released tool's asking of the row's closed facts alone. THE STATEMENT IS 'LawS4180ATwoReadsToldSaid' (YbulkchnuFmtCards.lean). -/
def LawS4180ATwoReadsFormAsk : Prop := lawS4180ATwoReadsRow.holds Ybaf.pinned (OpenSpec.ofChange lawS4180ATwoReadsSpec)

/-- ITS FALSE NEIGHBOUR: 'it returns false'. Refute it at one input. -/
def lawS4180ATwoReadsWrong : ChangeSpec := { name := "lawS4180ATwoReads", vars := ["example.com/holdfast/holdfast/internal/format.ErrMalformed", "example.com/holdfast/holdfast/internal/format.formats"], fn := fun _ => fun
  | [d1, d2, d3, g1, g2] => { results := [.lit (.bool false)], args := [d1, d2, d3], vars := [g1, g2] }
  | _ => none }
def LawS4180ATwoReadsWrongFormAsk : Prop := lawS4180ATwoReadsRow.holds Ybaf.pinned (OpenSpec.ofChange lawS4180ATwoReadsWrong)

/-- 'format.LawS4180AStuck': WHATEVER THE INPUT: true; the input reads as it did. -/
def lawS4180AStuckSpec : ChangeSpec := { name := "lawS4180AStuck", vars := ["example.com/holdfast/holdfast/internal/format.ErrMalformed", "example.com/holdfast/holdfast/internal/format.formats"], fn := fun _ => fun
  | [d1, d2, g1, g2] => { results := [.lit (.bool true)], args := [d1, d2], vars := [g1, g2] }
  | _ => none }
def lawS4180AStuckRow : OpenClaim := { program := "ybulkchnufmt", sum := "6f2916c56ab75fae033257eb26f4090aa69d285519891382558fa4f95cabe2e3", func := "example.com/holdfast/holdfast/internal/format.LawS4180AStuck", spec := "lawS4180AStuck", stops := ["fmt.Sprintf", "fmt.errorf"], inPlace := ["internal/reflectlite.TypeOf", "fmt.Sprintf", "fmt.errorf"], unfollowed := true, recurses := true, named := ["io.EOF", "io.ErrUnexpectedEOF", "io.ErrShortBuffer", "example.com/holdfast/holdfast/internal/format.ErrMalformed", "example.com/holdfast/holdfast/internal/format.formats"], ifaces := true, apart := false, laid := [("io.ErrShortBuffer", laid_io_ErrShortBuffer), ("io.EOF", laid_io_EOF), ("io.ErrUnexpectedEOF", laid_io_ErrUnexpectedEOF), ("example.com/holdfast/holdfast/internal/format.formats", laid_example_com_holdfast_holdfast_internal_format_formats), ("example.com/holdfast/holdfast/internal/format.ErrMalformed", laid_example_com_holdfast_holdfast_internal_format_ErrMalformed)] }
/-- NO THEOREM (fmt's text is open here; it may be false): for the released tool's asking of the row's closed facts alone. THE STATEMENT IS 'LawS4180AStuckToldSaid' (YbulkchnuFmtCards.lean). -/
def LawS4180AStuckFormAsk : Prop := lawS4180AStuckRow.holds Ybaf.pinned (OpenSpec.ofChange lawS4180AStuckSpec)

/-- ITS FALSE NEIGHBOUR: 'it returns false'. Refute it at one input. -/
def lawS4180AStuckWrong : ChangeSpec := { name := "lawS4180AStuck", vars := ["example.com/holdfast/holdfast/internal/format.ErrMalformed", "example.com/holdfast/holdfast/internal/format.formats"], fn := fun _ => fun
  | [d1, d2, g1, g2] => { results := [.lit (.bool false)], args := [d1, d2], vars := [g1, g2] }
  | _ => none }
def LawS4180AStuckWrongFormAsk : Prop := lawS4180AStuckRow.holds Ybaf.pinned (OpenSpec.ofChange lawS4180AStuckWrong)

end Rows
end Go.Proofs.YbulkchnuFmt

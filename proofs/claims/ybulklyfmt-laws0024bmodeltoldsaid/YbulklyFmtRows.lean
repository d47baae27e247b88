/-
  NARROWER THAN 'FOR EVERY INPUT', by the rows' own cells (each row's printed sentence says how): LawS0024AModel: laid · LawS0024BModel: laid · LawS0024BLeftover: laid · LawS0024CRoundTrip: ifaces, laid · LawS0024CShort: ifaces, laid.
  DERIVED. THE GIVEN ROWS OF THIS SEAT. 5 by the template 'for every input the law returns true; each argument reads behind the call as it read before'; 0 by the template 'total and deterministic' (their statements: YbulklyFmtTotals.lean).
  GIVEN WITH THE SEED: the statements are not yours to turn. If you find one false, say at which input.
  Laid BY PROGRAM, IN A SANDBOX (cutbox-rows.mjs): the forced cells as the released guide's own fill.sh prints them over the translation 5423403592cdff7a… (all of the seat's roots in one cut). By AI agents, Wed Nov 11 2026. No macro, syntax, notation, axiom, sorry.
-/
import Derived.Test.YbulklyFmtChecked
import GoSem.PinnedTables
import GoSem.Claim
import GoSem.ClaimJoined
import GoSem.ClaimMapViews
import Derived.JoinedTies
import Derived.KernelRfl
namespace Go.Proofs.YbulklyFmt
/- THE CELL 'sum', in the pinned program and in every row, IS THE sha256 OF THE DUMP (.gsa) THAT YbulklyFmtProg.lean LOADS. Nothing in Lean hashes anything: it is a label: what it is worth is what the hold of that sum in a sandbox is worth. -/
noncomputable def Ybaf.pinned : Pinned := { name := "ybulklyfmt", sum := "5423403592cdff7a35aa000c404de9b1c34defccd7ce9a2daca5bf0a435a61fe", checked := Ybaf.checked }
namespace Rows
def none {H : Type} : Left H := { results := [], args := [] }

/- WHAT THE LISTED PACKAGE-LEVEL VARIABLES READ AS WHEN THE CALL BEGINS. Each datum BY PROGRAM (the guide's laid-datum.mjs) off the statement by which the dump's own 'gosem.cut.vars' lays the variable. In a bare row this is a premise. The card (YbulklyFmtCards.lean) ties it to the program's text. -/
def laid_io_EOF {H : Type} : DataW H := .iface "*errors.errorString" (.ptr (.agg [.lit (.string [69, 79, 70])]))
def laid_io_ErrUnexpectedEOF {H : Type} : DataW H := .iface "*errors.errorString" (.ptr (.agg [.lit (.string [117, 110, 101, 120, 112, 101, 99, 116, 101, 100, 32, 69, 79, 70])]))
def laid_unicode_utf8_acceptRanges {H : Type} : DataW H := .agg [.agg [.lit (.int .u8 128), .lit (.int .u8 191)], .agg [.lit (.int .u8 160), .lit (.int .u8 191)], .agg [.lit (.int .u8 128), .lit (.int .u8 159)], .agg [.lit (.int .u8 144), .lit (.int .u8 191)], .agg [.lit (.int .u8 128), .lit (.int .u8 143)], .agg [.lit (.int .u8 0), .lit (.int .u8 0)], .agg [.lit (.int .u8 0), .lit (.int .u8 0)], .agg [.lit (.int .u8 0), .lit (.int .u8 0)], .agg [.lit (.int .u8 0), .lit (.int .u8 0)], .agg [.lit (.int .u8 0), .lit (.int .u8 0)], .agg [.lit (.int .u8 0), .lit (.int .u8 0)], .agg [.lit (.int .u8 0), .lit (.int .u8 0)], .agg [.lit (.int .u8 0), .lit (.int .u8 0)], .agg [.lit (.int .u8 0), .lit (.int .u8 0)], .agg [.lit (.int .u8 0), .lit (.int .u8 0)], .agg [.lit (.int .u8 0), .lit (.int .u8 0)]]
def laid_encoding_binary_errOverflow {H : Type} : DataW H := .iface "*errors.errorString" (.ptr (.agg [.lit (.string [98, 105, 110, 97, 114, 121, 58, 32, 118, 97, 114, 105, 110, 116, 32, 111, 118, 101, 114, 102, 108, 111, 119, 115, 32, 97, 32, 54, 52, 45, 98, 105, 116, 32, 105, 110, 116, 101, 103, 101, 114])]))
def laid_example_com_clusterwire_clusterwire_internal_wire_ErrTooLarge {H : Type} : DataW H := .iface "*errors.errorString" (.ptr (.agg [.lit (.string [112, 97, 121, 108, 111, 97, 100, 32, 116, 111, 111, 32, 108, 97, 114, 103, 101])]))
/-- One of Go's own tables, pinned by name: the form's constant. -/
def laid_unicode_utf8_first : DataW Unit := Go.Pinned.utf8First

/-- 'wire.LawS0024AModel': WHATEVER THE INPUT: true; the input reads as it did. -/
def lawS0024AModelSpec : ChangeSpec := { name := "lawS0024AModel", fn := fun _ => fun
  | [d1, d2] => { results := [.lit (.bool true)], args := [d1, d2] }
  | _ => none }
def lawS0024AModelRow : OpenClaim := { program := "ybulklyfmt", sum := "5423403592cdff7a35aa000c404de9b1c34defccd7ce9a2daca5bf0a435a61fe", func := "example.com/clusterwire/clusterwire/internal/wire.LawS0024AModel", spec := "lawS0024AModel", stops := ["fmt.errorf"], inPlace := ["fmt.errorf", "internal/reflectlite.TypeOf"], unfollowed := true, recurses := true, named := ["io.ErrUnexpectedEOF", "encoding/binary.BigEndian", "io.EOF"], apart := false, laid := [("io.EOF", laid_io_EOF), ("io.ErrUnexpectedEOF", laid_io_ErrUnexpectedEOF)] }
/-- NO THEOREM (fmt's text is open here; it may be false): for the released tool's asking of the row's closed facts alone. THE STATEMENT IS 'LawS0024AModelToldSaid' (YbulklyFmtCards.lean). -/
def LawS0024AModelFormAsk : Prop := lawS0024AModelRow.holds Ybaf.pinned (OpenSpec.ofChange lawS0024AModelSpec)

/-- ITS FALSE NEIGHBOUR: 'it returns false'. Refute it at one input. -/
def lawS0024AModelWrong : ChangeSpec := { name := "lawS0024AModel", fn := fun _ => fun
  | [d1, d2] => { results := [.lit (.bool false)], args := [d1, d2] }
  | _ => none }
def LawS0024AModelWrongFormAsk : Prop := lawS0024AModelRow.holds Ybaf.pinned (OpenSpec.ofChange lawS0024AModelWrong)

/-- 'wire.LawS0024BModel': WHATEVER THE INPUT: true; the input reads as it did. -/
def lawS0024BModelSpec : ChangeSpec := { name := "lawS0024BModel", fn := fun _ => fun
  | [d1, d2] => { results := [.lit (.bool true)], args := [d1, d2] }
  | _ => none }
def lawS0024BModelRow : OpenClaim := { program := "ybulklyfmt", sum := "5423403592cdff7a35aa000c404de9b1c34defccd7ce9a2daca5bf0a435a61fe", func := "example.com/clusterwire/clusterwire/internal/wire.LawS0024BModel", spec := "lawS0024BModel", stops := ["fmt.errorf"], inPlace := ["fmt.errorf"], named := ["io.ErrUnexpectedEOF", "io.EOF", "encoding/binary.BigEndian"], apart := false, laid := [("io.EOF", laid_io_EOF), ("io.ErrUnexpectedEOF", laid_io_ErrUnexpectedEOF)] }
/-- NO THEOREM (fmt's text is open here; it may be false): for the released tool's asking of the row's closed facts alone. THE STATEMENT IS 'LawS0024BModelToldSaid' (YbulklyFmtCards.lean). -/
def LawS0024BModelFormAsk : Prop := lawS0024BModelRow.holds Ybaf.pinned (OpenSpec.ofChange lawS0024BModelSpec)

/-- ITS FALSE NEIGHBOUR: 'it returns false'. Refute it at one input. -/
def lawS0024BModelWrong : ChangeSpec := { name := "lawS0024BModel", fn := fun _ => fun
  | [d1, d2] => { results := [.lit (.bool false)], args := [d1, d2] }
  | _ => none }
def LawS0024BModelWrongFormAsk : Prop := lawS0024BModelRow.holds Ybaf.pinned (OpenSpec.ofChange lawS0024BModelWrong)

/-- 'wire.LawS0024BLeftover': WHATEVER THE INPUT: true; the input reads as it did. -/
def lawS0024BLeftoverSpec : ChangeSpec := { name := "lawS0024BLeftover", fn := fun _ => fun
  | [d1, d2] => { results := [.lit (.bool true)], args := [d1, d2] }
  | _ => none }
def lawS0024BLeftoverRow : OpenClaim := { program := "ybulklyfmt", sum := "5423403592cdff7a35aa000c404de9b1c34defccd7ce9a2daca5bf0a435a61fe", func := "example.com/clusterwire/clusterwire/internal/wire.LawS0024BLeftover", spec := "lawS0024BLeftover", stops := ["fmt.errorf"], inPlace := ["fmt.errorf"], named := ["io.ErrUnexpectedEOF", "io.EOF"], apart := false, laid := [("io.EOF", laid_io_EOF), ("io.ErrUnexpectedEOF", laid_io_ErrUnexpectedEOF)] }
/-- NO THEOREM (fmt's text is open here; it may be false): for the released tool's asking of the row's closed facts alone. THE STATEMENT IS 'LawS0024BLeftoverToldSaid' (YbulklyFmtCards.lean). -/
def LawS0024BLeftoverFormAsk : Prop := lawS0024BLeftoverRow.holds Ybaf.pinned (OpenSpec.ofChange lawS0024BLeftoverSpec)

/-- ITS FALSE NEIGHBOUR: 'it returns false'. Refute it at one input. -/
def lawS0024BLeftoverWrong : ChangeSpec := { name := "lawS0024BLeftover", fn := fun _ => fun
  | [d1, d2] => { results := [.lit (.bool false)], args := [d1, d2] }
  | _ => none }
def LawS0024BLeftoverWrongFormAsk : Prop := lawS0024BLeftoverRow.holds Ybaf.pinned (OpenSpec.ofChange lawS0024BLeftoverWrong)

/-- 'clusterwire.LawS0024CRoundTrip': WHATEVER THE INPUT: true; the input reads as it did. -/
def lawS0024CRoundTripSpec : ChangeSpec := { name := "lawS0024CRoundTrip", vars := ["example.com/clusterwire/clusterwire/internal/wire.ErrTooLarge"], fn := fun _ => fun
  | [d1, d2, d3, g1] => { results := [.lit (.bool true)], args := [d1, d2, d3], vars := [g1] }
  | _ => none }
def lawS0024CRoundTripRow : OpenClaim := { program := "ybulklyfmt", sum := "5423403592cdff7a35aa000c404de9b1c34defccd7ce9a2daca5bf0a435a61fe", func := "example.com/clusterwire/clusterwire.LawS0024CRoundTrip", spec := "lawS0024CRoundTrip", stops := ["fmt.errorf"], inPlace := ["fmt.errorf"], unfollowed := true, recurses := true, named := ["io.ErrUnexpectedEOF", "io.EOF", "example.com/clusterwire/clusterwire/internal/wire.ErrTooLarge", "encoding/binary.errOverflow", "unicode/utf8.first", "unicode/utf8.acceptRanges"], ifaces := true, apart := false, laid := [("unicode/utf8.acceptRanges", laid_unicode_utf8_acceptRanges), ("io.EOF", laid_io_EOF), ("io.ErrUnexpectedEOF", laid_io_ErrUnexpectedEOF), ("encoding/binary.errOverflow", laid_encoding_binary_errOverflow), ("example.com/clusterwire/clusterwire/internal/wire.ErrTooLarge", laid_example_com_clusterwire_clusterwire_internal_wire_ErrTooLarge), ("unicode/utf8.first", laid_unicode_utf8_first)] }
/-- NO THEOREM (fmt's text is open here; it may be false): for the released tool's asking of the row's closed facts alone. THE STATEMENT IS 'LawS0024CRoundTripToldSaid' (YbulklyFmtCards.lean). -/
def LawS0024CRoundTripFormAsk : Prop := lawS0024CRoundTripRow.holds Ybaf.pinned (OpenSpec.ofChange lawS0024CRoundTripSpec)

/-- ITS FALSE NEIGHBOUR: 'it returns false'. Refute it at one input. -/
def lawS0024CRoundTripWrong : ChangeSpec := { name := "lawS0024CRoundTrip", vars := ["example.com/clusterwire/clusterwire/internal/wire.ErrTooLarge"], fn := fun _ => fun
  | [d1, d2, d3, g1] => { results := [.lit (.bool false)], args := [d1, d2, d3], vars := [g1] }
  | _ => none }
def LawS0024CRoundTripWrongFormAsk : Prop := lawS0024CRoundTripRow.holds Ybaf.pinned (OpenSpec.ofChange lawS0024CRoundTripWrong)

/-- 'clusterwire.LawS0024CShort': WHATEVER THE INPUT: true; the input reads as it did. -/
def lawS0024CShortSpec : ChangeSpec := { name := "lawS0024CShort", vars := ["example.com/clusterwire/clusterwire/internal/wire.ErrTooLarge"], fn := fun _ => fun
  | [d1, d2, g1] => { results := [.lit (.bool true)], args := [d1, d2], vars := [g1] }
  | _ => none }
def lawS0024CShortRow : OpenClaim := { program := "ybulklyfmt", sum := "5423403592cdff7a35aa000c404de9b1c34defccd7ce9a2daca5bf0a435a61fe", func := "example.com/clusterwire/clusterwire.LawS0024CShort", spec := "lawS0024CShort", stops := ["fmt.errorf"], inPlace := ["fmt.errorf"], unfollowed := true, recurses := true, named := ["io.ErrUnexpectedEOF", "io.EOF", "example.com/clusterwire/clusterwire/internal/wire.ErrTooLarge", "encoding/binary.errOverflow", "unicode/utf8.first", "unicode/utf8.acceptRanges"], ifaces := true, apart := false, laid := [("unicode/utf8.acceptRanges", laid_unicode_utf8_acceptRanges), ("io.EOF", laid_io_EOF), ("io.ErrUnexpectedEOF", laid_io_ErrUnexpectedEOF), ("encoding/binary.errOverflow", laid_encoding_binary_errOverflow), ("example.com/clusterwire/clusterwire/internal/wire.ErrTooLarge", laid_example_com_clusterwire_clusterwire_internal_wire_ErrTooLarge), ("unicode/utf8.first", laid_unicode_utf8_first)] }
/-- NO THEOREM (fmt's text is open here; it may be false): for the released tool's asking of the row's closed facts alone. THE STATEMENT IS 'LawS0024CShortToldSaid' (YbulklyFmtCards.lean). -/
def LawS0024CShortFormAsk : Prop := lawS0024CShortRow.holds Ybaf.pinned (OpenSpec.ofChange lawS0024CShortSpec)

/-- ITS FALSE NEIGHBOUR: 'it returns false'. Refute it at one input. -/
def lawS0024CShortWrong : ChangeSpec := { name := "lawS0024CShort", vars := ["example.com/clusterwire/clusterwire/internal/wire.ErrTooLarge"], fn := fun _ => fun
  | [d1, d2, g1] => { results := [.lit (.bool false)], args := [d1, d2], vars := [g1] }
  | _ => none }
def LawS0024CShortWrongFormAsk : Prop := lawS0024CShortRow.holds Ybaf.pinned (OpenSpec.ofChange lawS0024CShortWrong)

end Rows
end Go.Proofs.YbulklyFmt

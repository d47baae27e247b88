/-
  No cell of these rows narrows 'for every input' (looked for: loops, veiled, ifaces, maps, wideKeys, modest, calm, conditions, laid).
  DERIVED. THE GIVEN ROWS OF THIS SEAT. 4 by the template 'for every input the law returns true; each argument reads behind the call as it read before'; 0 by the template 'total and deterministic' (their statements: YbulkqgFmtTotals.lean).
  GIVEN WITH THE SEED: the statements are not yours to turn. If you find one false, say at which input.
  Laid BY PROGRAM, IN A SANDBOX (cutbox-rows.mjs): the forced cells as the released guide's own fill.sh prints them over the translation 787f107b80acd589… (all of the seat's roots in one cut). By AI agents, Wed Nov 11 2026. No macro, syntax, notation, axiom, sorry.
-/
import Derived.Test.YbulkqgFmtChecked
import GoSem.Claim
import GoSem.ClaimJoined
import GoSem.ClaimMapViews
import Derived.JoinedTies
import Derived.KernelRfl
namespace Go.Proofs.YbulkqgFmt
/- THE CELL 'sum', in the pinned program and in every row, IS THE sha256 OF THE DUMP (.gsa) THAT YbulkqgFmtProg.lean LOADS. Nothing in Lean hashes anything: it is a label: what it is worth is what the hold of that sum in a sandbox is worth. -/
noncomputable def Ybaf.pinned : Pinned := { name := "ybulkqgfmt", sum := "787f107b80acd589933cb4efdc7d9a203c749199831b92d27aad412a254b2233", checked := Ybaf.checked }
namespace Rows
def none {H : Type} : Left H := { results := [], args := [] }

/-- 'access.LawS0032AExact': WHATEVER THE INPUT: true; the input reads as it did. -/
def lawS0032AExactSpec : ChangeSpec := { name := "lawS0032AExact", fn := fun _ => fun
  | [d1, d2, d3, d4, d5, d6, d7] => { results := [.lit (.bool true)], args := [d1, d2, d3, d4, d5, d6, d7] }
  | _ => none }
def lawS0032AExactRow : OpenClaim := { program := "ybulkqgfmt", sum := "787f107b80acd589933cb4efdc7d9a203c749199831b92d27aad412a254b2233", func := "example.com/scatterset/scatterset/access.LawS0032AExact", spec := "lawS0032AExact", stops := ["fmt.errorf"], inPlace := ["fmt.errorf"], apart := false }
/-- NO THEOREM (fmt's text is open here; it may be false): for the released tool's asking of the row's closed facts alone. THE STATEMENT IS 'LawS0032AExactToldSaid' (YbulkqgFmtCards.lean). -/
def LawS0032AExactFormAsk : Prop := lawS0032AExactRow.holds Ybaf.pinned (OpenSpec.ofChange lawS0032AExactSpec)

/-- ITS FALSE NEIGHBOUR: 'it returns false'. Refute it at one input. -/
def lawS0032AExactWrong : ChangeSpec := { name := "lawS0032AExact", fn := fun _ => fun
  | [d1, d2, d3, d4, d5, d6, d7] => { results := [.lit (.bool false)], args := [d1, d2, d3, d4, d5, d6, d7] }
  | _ => none }
def LawS0032AExactWrongFormAsk : Prop := lawS0032AExactRow.holds Ybaf.pinned (OpenSpec.ofChange lawS0032AExactWrong)

/-- 'access.LawS0032ARoundTrip': WHATEVER THE INPUT: true; the input reads as it did. -/
def lawS0032ARoundTripSpec : ChangeSpec := { name := "lawS0032ARoundTrip", fn := fun _ => fun
  | [d1, d2, d3, d4, d5, d6, d7] => { results := [.lit (.bool true)], args := [d1, d2, d3, d4, d5, d6, d7] }
  | _ => none }
def lawS0032ARoundTripRow : OpenClaim := { program := "ybulkqgfmt", sum := "787f107b80acd589933cb4efdc7d9a203c749199831b92d27aad412a254b2233", func := "example.com/scatterset/scatterset/access.LawS0032ARoundTrip", spec := "lawS0032ARoundTrip", stops := ["fmt.errorf"], inPlace := ["fmt.errorf"], apart := false }
/-- NO THEOREM (fmt's text is open here; it may be false): for the released tool's asking of the row's closed facts alone. THE STATEMENT IS 'LawS0032ARoundTripToldSaid' (YbulkqgFmtCards.lean). -/
def LawS0032ARoundTripFormAsk : Prop := lawS0032ARoundTripRow.holds Ybaf.pinned (OpenSpec.ofChange lawS0032ARoundTripSpec)

/-- ITS FALSE NEIGHBOUR: 'it returns false'. Refute it at one input. -/
def lawS0032ARoundTripWrong : ChangeSpec := { name := "lawS0032ARoundTrip", fn := fun _ => fun
  | [d1, d2, d3, d4, d5, d6, d7] => { results := [.lit (.bool false)], args := [d1, d2, d3, d4, d5, d6, d7] }
  | _ => none }
def LawS0032ARoundTripWrongFormAsk : Prop := lawS0032ARoundTripRow.holds Ybaf.pinned (OpenSpec.ofChange lawS0032ARoundTripWrong)

/-- 'quorum.LawS0032CExact': WHATEVER THE INPUT: true; the input reads as it did. -/
def lawS0032CExactSpec : ChangeSpec := { name := "lawS0032CExact", fn := fun _ => fun
  | [d1, d2, d3] => { results := [.lit (.bool true)], args := [d1, d2, d3] }
  | _ => none }
def lawS0032CExactRow : OpenClaim := { program := "ybulkqgfmt", sum := "787f107b80acd589933cb4efdc7d9a203c749199831b92d27aad412a254b2233", func := "example.com/scatterset/scatterset/quorum.LawS0032CExact", spec := "lawS0032CExact", stops := ["fmt.errorf"], inPlace := ["fmt.errorf"], apart := false }
/-- NO THEOREM (fmt's text is open here; it may be false): for the released tool's asking of the row's closed facts alone. THE STATEMENT IS 'LawS0032CExactToldSaid' (YbulkqgFmtCards.lean). -/
def LawS0032CExactFormAsk : Prop := lawS0032CExactRow.holds Ybaf.pinned (OpenSpec.ofChange lawS0032CExactSpec)

/-- ITS FALSE NEIGHBOUR: 'it returns false'. Refute it at one input. -/
def lawS0032CExactWrong : ChangeSpec := { name := "lawS0032CExact", fn := fun _ => fun
  | [d1, d2, d3] => { results := [.lit (.bool false)], args := [d1, d2, d3] }
  | _ => none }
def LawS0032CExactWrongFormAsk : Prop := lawS0032CExactRow.holds Ybaf.pinned (OpenSpec.ofChange lawS0032CExactWrong)

/-- 'quorum.LawS0032CSymmetric': WHATEVER THE INPUT: true; the input reads as it did. -/
def lawS0032CSymmetricSpec : ChangeSpec := { name := "lawS0032CSymmetric", fn := fun _ => fun
  | [d1, d2, d3] => { results := [.lit (.bool true)], args := [d1, d2, d3] }
  | _ => none }
def lawS0032CSymmetricRow : OpenClaim := { program := "ybulkqgfmt", sum := "787f107b80acd589933cb4efdc7d9a203c749199831b92d27aad412a254b2233", func := "example.com/scatterset/scatterset/quorum.LawS0032CSymmetric", spec := "lawS0032CSymmetric", stops := ["fmt.errorf"], inPlace := ["fmt.errorf"], apart := false }
/-- NO THEOREM (fmt's text is open here; it may be false): for the released tool's asking of the row's closed facts alone. THE STATEMENT IS 'LawS0032CSymmetricToldSaid' (YbulkqgFmtCards.lean). -/
def LawS0032CSymmetricFormAsk : Prop := lawS0032CSymmetricRow.holds Ybaf.pinned (OpenSpec.ofChange lawS0032CSymmetricSpec)

/-- ITS FALSE NEIGHBOUR: 'it returns false'. Refute it at one input. -/
def lawS0032CSymmetricWrong : ChangeSpec := { name := "lawS0032CSymmetric", fn := fun _ => fun
  | [d1, d2, d3] => { results := [.lit (.bool false)], args := [d1, d2, d3] }
  | _ => none }
def LawS0032CSymmetricWrongFormAsk : Prop := lawS0032CSymmetricRow.holds Ybaf.pinned (OpenSpec.ofChange lawS0032CSymmetricWrong)

end Rows
end Go.Proofs.YbulkqgFmt

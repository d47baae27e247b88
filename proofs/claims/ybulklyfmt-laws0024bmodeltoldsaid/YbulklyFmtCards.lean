/-
  DERIVED. GIVEN WITH THE SEED: THE CARDS: each row of YbulklyFmtRows.lean that lists a variable, with what it lists TIED to the program's text (the seventh form; the later family's looks); each row that meets fmt, with fmt's text TOLD by the authors' own Lean function (tested against real Go, not proved from fmt's source: count such statements apart). THE CARD IS WHAT COUNTS. Prove the row's statement (the work); the ties are given (YbulklyFmtTie.lean); close each card by the builder's one call (the guide's Derived/Test/ToyasCard.lean, 'card_holds'). Laid BY PROGRAM, IN A SANDBOX (cutbox-door.mjs). By AI agents, Wed Nov 11 2026. No macro, syntax, notation, axiom, sorry.
-/
import Derived.Test.YbulklyFmtRows
import GoSem.ClaimSeven
namespace Go.Proofs.YbulklyFmt
namespace Rows

/-- THE TOLD AND TIED CARD OF 'wire.LawS0024AModel'. -/
def lawS0024AModelCard : Claim7 := { stood := { row := lawS0024AModelRow, standIns := [], harness := (true, "4959760061c5c9eaff9927b01d6a17e1d89b01bb9ddae2ff845182090d1173a7"), looks := true }, told := true, laidByText := true, laidKinds := [.sentinel, .sentinel], laidTests := true, laidLooks := .later, goes := false }
def LawS0024AModelToldSaid : Prop := Claim7.holds Ybaf.pinned (.plain (OpenSpec.ofChange lawS0024AModelSpec)) lawS0024AModelCard
/-- ITS FALSE NEIGHBOUR. Refute it at one input. -/
def LawS0024AModelToldWrongFalsely : Prop := Claim7.holds Ybaf.pinned (.plain (OpenSpec.ofChange lawS0024AModelWrong)) lawS0024AModelCard

/-- THE TOLD AND TIED CARD OF 'wire.LawS0024BModel'. -/
def lawS0024BModelCard : Claim7 := { stood := { row := lawS0024BModelRow, standIns := [], harness := (true, "4959760061c5c9eaff9927b01d6a17e1d89b01bb9ddae2ff845182090d1173a7"), looks := true }, told := true, laidByText := true, laidKinds := [.sentinel, .sentinel], laidTests := true, laidLooks := .later, goes := false }
def LawS0024BModelToldSaid : Prop := Claim7.holds Ybaf.pinned (.plain (OpenSpec.ofChange lawS0024BModelSpec)) lawS0024BModelCard
/-- ITS FALSE NEIGHBOUR. Refute it at one input. -/
def LawS0024BModelToldWrongFalsely : Prop := Claim7.holds Ybaf.pinned (.plain (OpenSpec.ofChange lawS0024BModelWrong)) lawS0024BModelCard

/-- THE TOLD AND TIED CARD OF 'wire.LawS0024BLeftover'. -/
def lawS0024BLeftoverCard : Claim7 := { stood := { row := lawS0024BLeftoverRow, standIns := [], harness := (true, "4959760061c5c9eaff9927b01d6a17e1d89b01bb9ddae2ff845182090d1173a7"), looks := true }, told := true, laidByText := true, laidKinds := [.sentinel, .sentinel], laidTests := true, laidLooks := .later, goes := false }
def LawS0024BLeftoverToldSaid : Prop := Claim7.holds Ybaf.pinned (.plain (OpenSpec.ofChange lawS0024BLeftoverSpec)) lawS0024BLeftoverCard
/-- ITS FALSE NEIGHBOUR. Refute it at one input. -/
def LawS0024BLeftoverToldWrongFalsely : Prop := Claim7.holds Ybaf.pinned (.plain (OpenSpec.ofChange lawS0024BLeftoverWrong)) lawS0024BLeftoverCard

/-- THE TOLD AND TIED CARD OF 'clusterwire.LawS0024CRoundTrip'. -/
def lawS0024CRoundTripCard : Claim7 := { stood := { row := lawS0024CRoundTripRow, standIns := [], harness := (true, "4959760061c5c9eaff9927b01d6a17e1d89b01bb9ddae2ff845182090d1173a7"), looks := true }, told := true, laidByText := true, laidKinds := [.data, .sentinel, .sentinel, .sentinel, .sentinel, .pinned], laidTests := true, laidLooks := .later, goes := false }
def LawS0024CRoundTripToldSaid : Prop := Claim7.holds Ybaf.pinned (.plain (OpenSpec.ofChange lawS0024CRoundTripSpec)) lawS0024CRoundTripCard
/-- ITS FALSE NEIGHBOUR. Refute it at one input. -/
def LawS0024CRoundTripToldWrongFalsely : Prop := Claim7.holds Ybaf.pinned (.plain (OpenSpec.ofChange lawS0024CRoundTripWrong)) lawS0024CRoundTripCard

/-- THE TOLD AND TIED CARD OF 'clusterwire.LawS0024CShort'. -/
def lawS0024CShortCard : Claim7 := { stood := { row := lawS0024CShortRow, standIns := [], harness := (true, "4959760061c5c9eaff9927b01d6a17e1d89b01bb9ddae2ff845182090d1173a7"), looks := true }, told := true, laidByText := true, laidKinds := [.data, .sentinel, .sentinel, .sentinel, .sentinel, .pinned], laidTests := true, laidLooks := .later, goes := false }
def LawS0024CShortToldSaid : Prop := Claim7.holds Ybaf.pinned (.plain (OpenSpec.ofChange lawS0024CShortSpec)) lawS0024CShortCard
/-- ITS FALSE NEIGHBOUR. Refute it at one input. -/
def LawS0024CShortToldWrongFalsely : Prop := Claim7.holds Ybaf.pinned (.plain (OpenSpec.ofChange lawS0024CShortWrong)) lawS0024CShortCard
end Rows
end Go.Proofs.YbulklyFmt

/-
  DERIVED. GIVEN WITH THE SEED: THE CARDS: each row of YbulkqgFmtRows.lean that lists a variable, with what it lists TIED to the program's text (the seventh form; the later family's looks); each row that meets fmt, with fmt's text TOLD by the authors' own Lean function (tested against real Go, not proved from fmt's source: count such statements apart). THE CARD IS WHAT COUNTS. Prove the row's statement (the work); the ties are given (YbulkqgFmtTie.lean); close each card by the builder's one call (the guide's Derived/Test/ToyasCard.lean, 'card_holds'). Laid BY PROGRAM, IN A SANDBOX (cutbox-door.mjs). By AI agents, Wed Nov 11 2026. No macro, syntax, notation, axiom, sorry.
-/
import Derived.Test.YbulkqgFmtRows
import GoSem.ClaimSeven
namespace Go.Proofs.YbulkqgFmt
namespace Rows

/-- THE TOLD CARD OF 'access.LawS0032AExact'. -/
def lawS0032AExactCard : Claim7 := { stood := { row := lawS0032AExactRow, standIns := [], harness := (true, "44a5399050fb3eea52b80979264ec96396f6929c2ed8e60bea74cf1eb49d4256"), looks := false }, told := true, goes := false }
def LawS0032AExactToldSaid : Prop := Claim7.holds Ybaf.pinned (.plain (OpenSpec.ofChange lawS0032AExactSpec)) lawS0032AExactCard
/-- ITS FALSE NEIGHBOUR. Refute it at one input. -/
def LawS0032AExactToldWrongFalsely : Prop := Claim7.holds Ybaf.pinned (.plain (OpenSpec.ofChange lawS0032AExactWrong)) lawS0032AExactCard

/-- THE TOLD CARD OF 'access.LawS0032ARoundTrip'. -/
def lawS0032ARoundTripCard : Claim7 := { stood := { row := lawS0032ARoundTripRow, standIns := [], harness := (true, "44a5399050fb3eea52b80979264ec96396f6929c2ed8e60bea74cf1eb49d4256"), looks := false }, told := true, goes := false }
def LawS0032ARoundTripToldSaid : Prop := Claim7.holds Ybaf.pinned (.plain (OpenSpec.ofChange lawS0032ARoundTripSpec)) lawS0032ARoundTripCard
/-- ITS FALSE NEIGHBOUR. Refute it at one input. -/
def LawS0032ARoundTripToldWrongFalsely : Prop := Claim7.holds Ybaf.pinned (.plain (OpenSpec.ofChange lawS0032ARoundTripWrong)) lawS0032ARoundTripCard

/-- THE TOLD CARD OF 'quorum.LawS0032CExact'. -/
def lawS0032CExactCard : Claim7 := { stood := { row := lawS0032CExactRow, standIns := [], harness := (true, "44a5399050fb3eea52b80979264ec96396f6929c2ed8e60bea74cf1eb49d4256"), looks := false }, told := true, goes := false }
def LawS0032CExactToldSaid : Prop := Claim7.holds Ybaf.pinned (.plain (OpenSpec.ofChange lawS0032CExactSpec)) lawS0032CExactCard
/-- ITS FALSE NEIGHBOUR. Refute it at one input. -/
def LawS0032CExactToldWrongFalsely : Prop := Claim7.holds Ybaf.pinned (.plain (OpenSpec.ofChange lawS0032CExactWrong)) lawS0032CExactCard

/-- THE TOLD CARD OF 'quorum.LawS0032CSymmetric'. -/
def lawS0032CSymmetricCard : Claim7 := { stood := { row := lawS0032CSymmetricRow, standIns := [], harness := (true, "44a5399050fb3eea52b80979264ec96396f6929c2ed8e60bea74cf1eb49d4256"), looks := false }, told := true, goes := false }
def LawS0032CSymmetricToldSaid : Prop := Claim7.holds Ybaf.pinned (.plain (OpenSpec.ofChange lawS0032CSymmetricSpec)) lawS0032CSymmetricCard
/-- ITS FALSE NEIGHBOUR. Refute it at one input. -/
def LawS0032CSymmetricToldWrongFalsely : Prop := Claim7.holds Ybaf.pinned (.plain (OpenSpec.ofChange lawS0032CSymmetricWrong)) lawS0032CSymmetricCard
end Rows
end Go.Proofs.YbulkqgFmt

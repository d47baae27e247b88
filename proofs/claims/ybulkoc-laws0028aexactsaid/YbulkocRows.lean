/-
  NARROWER THAN 'FOR EVERY INPUT', by the rows' own cells (each row's printed sentence says how): LawS0028AExact: maps · LawS0028AOrdered: maps.
  DERIVED. THE GIVEN ROWS OF THIS SEAT. 2 by the template 'for every input the law returns true; each argument reads behind the call as it read before'; 0 by the template 'total and deterministic' (their statements: YbulkocTotals.lean).
  GIVEN WITH THE SEED: the statements are not yours to turn. If you find one false, say at which input.
  Laid BY PROGRAM, IN A SANDBOX (cutbox-rows.mjs): the forced cells as the released guide's own fill.sh prints them over the translation a27cd13e3b54fdfe… (all of the seat's roots in one cut). By AI agents, Wed Nov 11 2026. No macro, syntax, notation, axiom, sorry.
-/
import Derived.Test.YbulkocChecked
import GoSem.Claim
import GoSem.ClaimJoined
import GoSem.ClaimMapViews
import Derived.JoinedTies
import Derived.KernelRfl
namespace Go.Proofs.Ybulkoc
/- THE CELL 'sum', in the pinned program and in every row, IS THE sha256 OF THE DUMP (.gsa) THAT YbulkocProg.lean LOADS. Nothing in Lean hashes anything: it is a label: what it is worth is what the hold of that sum in a sandbox is worth. -/
noncomputable def Yba.pinned : Pinned := { name := "ybulkoc", sum := "a27cd13e3b54fdfe1d3229a9b5b31e991f563c42920f3fa822e9f873cf76d542", checked := Yba.checked }
namespace Rows
def none {H : Type} : Left H := { results := [], args := [] }

/-- 'sim.LawS0028AExact': WHATEVER THE INPUT: true; the input reads as it did. -/
def lawS0028AExactSpec : ChangeSpec := { name := "lawS0028AExact", fn := fun _ => fun
  | [d1, d2, d3, d4] => { results := [.lit (.bool true)], args := [d1, d2, d3, d4] }
  | _ => none }
def lawS0028AExactRow : OpenClaim := { program := "ybulkoc", sum := "a27cd13e3b54fdfe1d3229a9b5b31e991f563c42920f3fa822e9f873cf76d542", func := "example.com/suspicio/suspicio/internal/sim.LawS0028AExact", spec := "lawS0028AExact", unfollowed := true, recurses := true, maps := true, apart := false }
def LawS0028AExactSaid : Prop := lawS0028AExactRow.holds Yba.pinned (OpenSpec.ofChange lawS0028AExactSpec)

/-- ITS FALSE NEIGHBOUR: 'it returns false'. Refute it at one input. -/
def lawS0028AExactWrong : ChangeSpec := { name := "lawS0028AExact", fn := fun _ => fun
  | [d1, d2, d3, d4] => { results := [.lit (.bool false)], args := [d1, d2, d3, d4] }
  | _ => none }
def LawS0028AExactWrongFalsely : Prop := lawS0028AExactRow.holds Yba.pinned (OpenSpec.ofChange lawS0028AExactWrong)

/-- 'sim.LawS0028AOrdered': WHATEVER THE INPUT: true; the input reads as it did. -/
def lawS0028AOrderedSpec : ChangeSpec := { name := "lawS0028AOrdered", fn := fun _ => fun
  | [d1, d2, d3, d4] => { results := [.lit (.bool true)], args := [d1, d2, d3, d4] }
  | _ => none }
def lawS0028AOrderedRow : OpenClaim := { program := "ybulkoc", sum := "a27cd13e3b54fdfe1d3229a9b5b31e991f563c42920f3fa822e9f873cf76d542", func := "example.com/suspicio/suspicio/internal/sim.LawS0028AOrdered", spec := "lawS0028AOrdered", unfollowed := true, recurses := true, maps := true, apart := false }
def LawS0028AOrderedSaid : Prop := lawS0028AOrderedRow.holds Yba.pinned (OpenSpec.ofChange lawS0028AOrderedSpec)

/-- ITS FALSE NEIGHBOUR: 'it returns false'. Refute it at one input. -/
def lawS0028AOrderedWrong : ChangeSpec := { name := "lawS0028AOrdered", fn := fun _ => fun
  | [d1, d2, d3, d4] => { results := [.lit (.bool false)], args := [d1, d2, d3, d4] }
  | _ => none }
def LawS0028AOrderedWrongFalsely : Prop := lawS0028AOrderedRow.holds Yba.pinned (OpenSpec.ofChange lawS0028AOrderedWrong)

end Rows
end Go.Proofs.Ybulkoc

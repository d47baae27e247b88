/-
  No cell of these rows narrows 'for every input' (looked for: loops, veiled, ifaces, maps, wideKeys, modest, calm, conditions, laid).
  DERIVED. THE GIVEN ROWS OF THIS SEAT. 1 by the template 'for every input the law returns true; each argument reads behind the call as it read before'; 0 by the template 'total and deterministic' (their statements: YbulkquTotals.lean).
  GIVEN WITH THE SEED: the statements are not yours to turn. If you find one false, say at which input.
  Laid BY PROGRAM, IN A SANDBOX (cutbox-rows.mjs): the forced cells as the released guide's own fill.sh prints them over the translation 1ff5f5093ae4cec9… (all of the seat's roots in one cut). By AI agents, Wed Nov 11 2026. No macro, syntax, notation, axiom, sorry.
-/
import Derived.Test.YbulkquChecked
import GoSem.Claim
import GoSem.ClaimJoined
import GoSem.ClaimMapViews
import Derived.JoinedTies
import Derived.KernelRfl
namespace Go.Proofs.Ybulkqu
/- THE CELL 'sum', in the pinned program and in every row, IS THE sha256 OF THE DUMP (.gsa) THAT YbulkquProg.lean LOADS. Nothing in Lean hashes anything: it is a label: what it is worth is what the hold of that sum in a sandbox is worth. -/
noncomputable def Yba.pinned : Pinned := { name := "ybulkqu", sum := "1ff5f5093ae4cec9510128029714914177bef7b15328c286c27ceb4bb1c09d00", checked := Yba.checked }
namespace Rows
def none {H : Type} : Left H := { results := [], args := [] }

/-- 'replica.LawS0033CPass': WHATEVER THE INPUT: true; the input reads as it did. -/
def lawS0033CPassSpec : ChangeSpec := { name := "lawS0033CPass", fn := fun _ => fun
  | [d1, d2, d3, d4] => { results := [.lit (.bool true)], args := [d1, d2, d3, d4] }
  | _ => none }
def lawS0033CPassRow : OpenClaim := { program := "ybulkqu", sum := "1ff5f5093ae4cec9510128029714914177bef7b15328c286c27ceb4bb1c09d00", func := "example.com/driftbound/driftbound/internal/replica.LawS0033CPass", spec := "lawS0033CPass", unfollowed := true, recurses := true, apart := false }
def LawS0033CPassSaid : Prop := lawS0033CPassRow.holds Yba.pinned (OpenSpec.ofChange lawS0033CPassSpec)

/-- ITS FALSE NEIGHBOUR: 'it returns false'. Refute it at one input. -/
def lawS0033CPassWrong : ChangeSpec := { name := "lawS0033CPass", fn := fun _ => fun
  | [d1, d2, d3, d4] => { results := [.lit (.bool false)], args := [d1, d2, d3, d4] }
  | _ => none }
def LawS0033CPassWrongFalsely : Prop := lawS0033CPassRow.holds Yba.pinned (OpenSpec.ofChange lawS0033CPassWrong)

end Rows
end Go.Proofs.Ybulkqu

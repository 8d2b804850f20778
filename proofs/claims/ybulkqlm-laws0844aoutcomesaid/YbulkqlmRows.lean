/-
  No cell of these rows narrows 'for every input' (looked for: loops, veiled, ifaces, maps, wideKeys, modest, calm, conditions, laid).
  DERIVED. THE GIVEN ROWS OF THIS SEAT. 1 by the template 'for every input the law returns true; each argument reads behind the call as it read before'; 0 by the template 'total and deterministic' (their statements: YbulkqlmTotals.lean).
  GIVEN WITH THE SEED: the statements are not yours to turn. If you find one false, say at which input.
  Laid BY PROGRAM, IN A SANDBOX (cutbox-rows.mjs): the forced cells as the released guide's own fill.sh prints them over the translation e7bca69036adad6e… (all of the seat's roots in one cut). By AI agents, Wed Nov 11 2026. No macro, syntax, notation, axiom, sorry.
-/
import Derived.Test.YbulkqlmChecked
import GoSem.Claim
import GoSem.ClaimJoined
import GoSem.ClaimMapViews
import Derived.JoinedTies
import Derived.KernelRfl
namespace Go.Proofs.Ybulkqlm
/- THE CELL 'sum', in the pinned program and in every row, IS THE sha256 OF THE DUMP (.gsa) THAT YbulkqlmProg.lean LOADS. Nothing in Lean hashes anything: it is a label: what it is worth is what the hold of that sum in a sandbox is worth. -/
noncomputable def Yba.pinned : Pinned := { name := "ybulkqlm", sum := "e7bca69036adad6eb5553adac18d26b29eb1399fbf17f2c2f8ea97f0c9eb990a", checked := Yba.checked }
namespace Rows
def none {H : Type} : Left H := { results := [], args := [] }

/-- 'txlog.LawS0844AOutcome': WHATEVER THE INPUT: true; the input reads as it did. -/
def lawS0844AOutcomeSpec : ChangeSpec := { name := "lawS0844AOutcome", fn := fun _ => fun
  | [d1, d2, d3] => { results := [.lit (.bool true)], args := [d1, d2, d3] }
  | _ => none }
def lawS0844AOutcomeRow : OpenClaim := { program := "ybulkqlm", sum := "e7bca69036adad6eb5553adac18d26b29eb1399fbf17f2c2f8ea97f0c9eb990a", func := "example.com/driftline/driftline/internal/txlog.LawS0844AOutcome", spec := "lawS0844AOutcome", unfollowed := true, recurses := true, apart := false }
def LawS0844AOutcomeSaid : Prop := lawS0844AOutcomeRow.holds Yba.pinned (OpenSpec.ofChange lawS0844AOutcomeSpec)

/-- ITS FALSE NEIGHBOUR: 'it returns false'. Refute it at one input. -/
def lawS0844AOutcomeWrong : ChangeSpec := { name := "lawS0844AOutcome", fn := fun _ => fun
  | [d1, d2, d3] => { results := [.lit (.bool false)], args := [d1, d2, d3] }
  | _ => none }
def LawS0844AOutcomeWrongFalsely : Prop := lawS0844AOutcomeRow.holds Yba.pinned (OpenSpec.ofChange lawS0844AOutcomeWrong)

end Rows
end Go.Proofs.Ybulkqlm

/-
  No cell of these rows narrows 'for every input' (looked for: loops, veiled, ifaces, maps, wideKeys, modest, calm, conditions, laid).
  DERIVED. THE GIVEN ROWS OF THIS SEAT. 2 by the template 'for every input the law returns true; each argument reads behind the call as it read before'; 0 by the template 'total and deterministic' (their statements: YbulkqfoTotals.lean).
  GIVEN WITH THE SEED: the statements are not yours to turn. If you find one false, say at which input.
  Laid BY PROGRAM, IN A SANDBOX (cutbox-rows.mjs): the forced cells as the released guide's own fill.sh prints them over the translation 775a1a26fb9b862f… (all of the seat's roots in one cut). By AI agents, Wed Nov 11 2026. No macro, syntax, notation, axiom, sorry.
-/
import Derived.Test.YbulkqfoChecked
import GoSem.Claim
import GoSem.ClaimJoined
import GoSem.ClaimMapViews
import Derived.JoinedTies
import Derived.KernelRfl
namespace Go.Proofs.Ybulkqfo
/- THE CELL 'sum', in the pinned program and in every row, IS THE sha256 OF THE DUMP (.gsa) THAT YbulkqfoProg.lean LOADS. Nothing in Lean hashes anything: it is a label: what it is worth is what the hold of that sum in a sandbox is worth. -/
noncomputable def Yba.pinned : Pinned := { name := "ybulkqfo", sum := "775a1a26fb9b862fb0685ef4a731a6f46e1cf033eae579575b4bd3109480bc2e", checked := Yba.checked }
namespace Rows
def none {H : Type} : Left H := { results := [], args := [] }

/-- 'weighted-judge.LawS0833BSplit': WHATEVER THE INPUT: true; the input reads as it did. -/
def lawS0833BSplitSpec : ChangeSpec := { name := "lawS0833BSplit", fn := fun _ => fun
  | [d] => { results := [.lit (.bool true)], args := [d] }
  | _ => none }
def lawS0833BSplitRow : OpenClaim := { program := "ybulkqfo", sum := "775a1a26fb9b862fb0685ef4a731a6f46e1cf033eae579575b4bd3109480bc2e", func := "example.com/weighted-judge/weighted-judge.LawS0833BSplit", spec := "lawS0833BSplit", inPlace := ["math.Float64bits", "math.Float64frombits"], apart := false }
def LawS0833BSplitSaid : Prop := lawS0833BSplitRow.holds Yba.pinned (OpenSpec.ofChange lawS0833BSplitSpec)

/-- ITS FALSE NEIGHBOUR: 'it returns false'. Refute it at one input. -/
def lawS0833BSplitWrong : ChangeSpec := { name := "lawS0833BSplit", fn := fun _ => fun
  | [d] => { results := [.lit (.bool false)], args := [d] }
  | _ => none }
def LawS0833BSplitWrongFalsely : Prop := lawS0833BSplitRow.holds Yba.pinned (OpenSpec.ofChange lawS0833BSplitWrong)

/-- 'weighted-judge.LawS0833BShort': WHATEVER THE INPUT: true; the input reads as it did. -/
def lawS0833BShortSpec : ChangeSpec := { name := "lawS0833BShort", fn := fun _ => fun
  | [d1, d2] => { results := [.lit (.bool true)], args := [d1, d2] }
  | _ => none }
def lawS0833BShortRow : OpenClaim := { program := "ybulkqfo", sum := "775a1a26fb9b862fb0685ef4a731a6f46e1cf033eae579575b4bd3109480bc2e", func := "example.com/weighted-judge/weighted-judge.LawS0833BShort", spec := "lawS0833BShort", inPlace := ["math.Float64bits", "math.Float64frombits"], apart := false }
def LawS0833BShortSaid : Prop := lawS0833BShortRow.holds Yba.pinned (OpenSpec.ofChange lawS0833BShortSpec)

/-- ITS FALSE NEIGHBOUR: 'it returns false'. Refute it at one input. -/
def lawS0833BShortWrong : ChangeSpec := { name := "lawS0833BShort", fn := fun _ => fun
  | [d1, d2] => { results := [.lit (.bool false)], args := [d1, d2] }
  | _ => none }
def LawS0833BShortWrongFalsely : Prop := lawS0833BShortRow.holds Yba.pinned (OpenSpec.ofChange lawS0833BShortWrong)

end Rows
end Go.Proofs.Ybulkqfo

/-
  No cell of these rows narrows 'for every input' (looked for: loops, veiled, ifaces, maps, wideKeys, modest, calm, conditions, laid).
  DERIVED. THE GIVEN ROWS OF THIS SEAT. 4 by the template 'for every input the law returns true; each argument reads behind the call as it read before'; 0 by the template 'total and deterministic' (their statements: YbulkqhsTotals.lean).
  GIVEN WITH THE SEED: the statements are not yours to turn. If you find one false, say at which input.
  Laid BY PROGRAM, IN A SANDBOX (cutbox-rows.mjs): the forced cells as the released guide's own fill.sh prints them over the translation 9b0603b16bac1a8d… (all of the seat's roots in one cut). By AI agents, Wed Nov 11 2026. No macro, syntax, notation, axiom, sorry.
-/
import Derived.Test.YbulkqhsChecked
import GoSem.Claim
import GoSem.ClaimJoined
import GoSem.ClaimMapViews
import Derived.JoinedTies
import Derived.KernelRfl
namespace Go.Proofs.Ybulkqhs
/- THE CELL 'sum', in the pinned program and in every row, IS THE sha256 OF THE DUMP (.gsa) THAT YbulkqhsProg.lean LOADS. Nothing in Lean hashes anything: it is a label: what it is worth is what the hold of that sum in a sandbox is worth. -/
noncomputable def Yba.pinned : Pinned := { name := "ybulkqhs", sum := "9b0603b16bac1a8da1126ea8356628c2ec443b1f77f7b5368c847106dcf04ec0", checked := Yba.checked }
namespace Rows
def none {H : Type} : Left H := { results := [], args := [] }

/-- 'rangefold.LawS0837AModel': WHATEVER THE INPUT: true; the input reads as it did. -/
def lawS0837AModelSpec : ChangeSpec := { name := "lawS0837AModel", fn := fun _ => fun
  | [d] => { results := [.lit (.bool true)], args := [d] }
  | _ => none }
def lawS0837AModelRow : OpenClaim := { program := "ybulkqhs", sum := "9b0603b16bac1a8da1126ea8356628c2ec443b1f77f7b5368c847106dcf04ec0", func := "example.com/rangefold/rangefold.LawS0837AModel", spec := "lawS0837AModel", apart := false }
def LawS0837AModelSaid : Prop := lawS0837AModelRow.holds Yba.pinned (OpenSpec.ofChange lawS0837AModelSpec)

/-- ITS FALSE NEIGHBOUR: 'it returns false'. Refute it at one input. -/
def lawS0837AModelWrong : ChangeSpec := { name := "lawS0837AModel", fn := fun _ => fun
  | [d] => { results := [.lit (.bool false)], args := [d] }
  | _ => none }
def LawS0837AModelWrongFalsely : Prop := lawS0837AModelRow.holds Yba.pinned (OpenSpec.ofChange lawS0837AModelWrong)

/-- 'rangefold.LawS0837BAddUnion': WHATEVER THE INPUT: true; the input reads as it did. -/
def lawS0837BAddUnionSpec : ChangeSpec := { name := "lawS0837BAddUnion", fn := fun _ => fun
  | [d1, d2] => { results := [.lit (.bool true)], args := [d1, d2] }
  | _ => none }
def lawS0837BAddUnionRow : OpenClaim := { program := "ybulkqhs", sum := "9b0603b16bac1a8da1126ea8356628c2ec443b1f77f7b5368c847106dcf04ec0", func := "example.com/rangefold/rangefold.LawS0837BAddUnion", spec := "lawS0837BAddUnion", inPlace := ["math/bits.Add64"], unfollowed := true, recurses := true, named := ["encoding/binary.LittleEndian", "encoding/binary.BigEndian"], apart := false }
def LawS0837BAddUnionSaid : Prop := lawS0837BAddUnionRow.holds Yba.pinned (OpenSpec.ofChange lawS0837BAddUnionSpec)

/-- ITS FALSE NEIGHBOUR: 'it returns false'. Refute it at one input. -/
def lawS0837BAddUnionWrong : ChangeSpec := { name := "lawS0837BAddUnion", fn := fun _ => fun
  | [d1, d2] => { results := [.lit (.bool false)], args := [d1, d2] }
  | _ => none }
def LawS0837BAddUnionWrongFalsely : Prop := lawS0837BAddUnionRow.holds Yba.pinned (OpenSpec.ofChange lawS0837BAddUnionWrong)

/-- 'rangefold.LawS0837BAddSplit': WHATEVER THE INPUT: true; the input reads as it did. -/
def lawS0837BAddSplitSpec : ChangeSpec := { name := "lawS0837BAddSplit", fn := fun _ => fun
  | [d1, d2, d3] => { results := [.lit (.bool true)], args := [d1, d2, d3] }
  | _ => none }
def lawS0837BAddSplitRow : OpenClaim := { program := "ybulkqhs", sum := "9b0603b16bac1a8da1126ea8356628c2ec443b1f77f7b5368c847106dcf04ec0", func := "example.com/rangefold/rangefold.LawS0837BAddSplit", spec := "lawS0837BAddSplit", inPlace := ["math/bits.Add64"], unfollowed := true, recurses := true, named := ["encoding/binary.LittleEndian", "encoding/binary.BigEndian"], apart := false }
def LawS0837BAddSplitSaid : Prop := lawS0837BAddSplitRow.holds Yba.pinned (OpenSpec.ofChange lawS0837BAddSplitSpec)

/-- ITS FALSE NEIGHBOUR: 'it returns false'. Refute it at one input. -/
def lawS0837BAddSplitWrong : ChangeSpec := { name := "lawS0837BAddSplit", fn := fun _ => fun
  | [d1, d2, d3] => { results := [.lit (.bool false)], args := [d1, d2, d3] }
  | _ => none }
def LawS0837BAddSplitWrongFalsely : Prop := lawS0837BAddSplitRow.holds Yba.pinned (OpenSpec.ofChange lawS0837BAddSplitWrong)

/-- 'rangefold.LawS0837CAnswer': WHATEVER THE INPUT: true; the input reads as it did. -/
def lawS0837CAnswerSpec : ChangeSpec := { name := "lawS0837CAnswer", fn := fun _ => fun
  | [d1, d2, d3, d4, d5, d6, d7, d8, d9] => { results := [.lit (.bool true)], args := [d1, d2, d3, d4, d5, d6, d7, d8, d9] }
  | _ => none }
def lawS0837CAnswerRow : OpenClaim := { program := "ybulkqhs", sum := "9b0603b16bac1a8da1126ea8356628c2ec443b1f77f7b5368c847106dcf04ec0", func := "example.com/rangefold/rangefold.LawS0837CAnswer", spec := "lawS0837CAnswer", inPlace := ["math/bits.Add64"], unfollowed := true, recurses := true, named := ["encoding/binary.LittleEndian", "encoding/binary.BigEndian"], apart := false }
def LawS0837CAnswerSaid : Prop := lawS0837CAnswerRow.holds Yba.pinned (OpenSpec.ofChange lawS0837CAnswerSpec)

/-- ITS FALSE NEIGHBOUR: 'it returns false'. Refute it at one input. -/
def lawS0837CAnswerWrong : ChangeSpec := { name := "lawS0837CAnswer", fn := fun _ => fun
  | [d1, d2, d3, d4, d5, d6, d7, d8, d9] => { results := [.lit (.bool false)], args := [d1, d2, d3, d4, d5, d6, d7, d8, d9] }
  | _ => none }
def LawS0837CAnswerWrongFalsely : Prop := lawS0837CAnswerRow.holds Yba.pinned (OpenSpec.ofChange lawS0837CAnswerWrong)

end Rows
end Go.Proofs.Ybulkqhs

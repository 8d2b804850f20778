/-
  No cell of these rows narrows 'for every input' (looked for: loops, veiled, ifaces, maps, wideKeys, modest, calm, conditions, laid).
  DERIVED. THE GIVEN ROWS OF THIS SEAT. 6 by the template 'for every input the law returns true; each argument reads behind the call as it read before'; 0 by the template 'total and deterministic' (their statements: YbulkqgcTotals.lean).
  GIVEN WITH THE SEED: the statements are not yours to turn. If you find one false, say at which input.
  Laid BY PROGRAM, IN A SANDBOX (cutbox-rows.mjs): the forced cells as the released guide's own fill.sh prints them over the translation fe872e194bbb266a… (all of the seat's roots in one cut). By AI agents, Wed Nov 11 2026. No macro, syntax, notation, axiom, sorry.
-/
import Derived.Test.YbulkqgcChecked
import GoSem.Claim
import GoSem.ClaimJoined
import GoSem.ClaimMapViews
import Derived.JoinedTies
import Derived.KernelRfl
namespace Go.Proofs.Ybulkqgc
/- THE CELL 'sum', in the pinned program and in every row, IS THE sha256 OF THE DUMP (.gsa) THAT YbulkqgcProg.lean LOADS. Nothing in Lean hashes anything: it is a label: what it is worth is what the hold of that sum in a sandbox is worth. -/
noncomputable def Yba.pinned : Pinned := { name := "ybulkqgc", sum := "fe872e194bbb266a37eddbb7e982c932a4a3102c67e65fd93e593c03c1539d42", checked := Yba.checked }
namespace Rows
def none {H : Type} : Left H := { results := [], args := [] }

/-- 'consensus.LawS0834AModel': WHATEVER THE INPUT: true; the input reads as it did. -/
def lawS0834AModelSpec : ChangeSpec := { name := "lawS0834AModel", fn := fun _ => fun
  | [d1, d2, d3, d4, d5, d6, d7] => { results := [.lit (.bool true)], args := [d1, d2, d3, d4, d5, d6, d7] }
  | _ => none }
def lawS0834AModelRow : OpenClaim := { program := "ybulkqgc", sum := "fe872e194bbb266a37eddbb7e982c932a4a3102c67e65fd93e593c03c1539d42", func := "example.com/goodstanding/goodstanding/consensus.LawS0834AModel", spec := "lawS0834AModel", plainKeys := false, apart := false }
def LawS0834AModelSaid : Prop := lawS0834AModelRow.holds Yba.pinned (OpenSpec.ofChange lawS0834AModelSpec)

/-- ITS FALSE NEIGHBOUR: 'it returns false'. Refute it at one input. -/
def lawS0834AModelWrong : ChangeSpec := { name := "lawS0834AModel", fn := fun _ => fun
  | [d1, d2, d3, d4, d5, d6, d7] => { results := [.lit (.bool false)], args := [d1, d2, d3, d4, d5, d6, d7] }
  | _ => none }
def LawS0834AModelWrongFalsely : Prop := lawS0834AModelRow.holds Yba.pinned (OpenSpec.ofChange lawS0834AModelWrong)

/-- 'consensus.LawS0834AAheadIgnoresRound': WHATEVER THE INPUT: true; the input reads as it did. -/
def lawS0834AAheadIgnoresRoundSpec : ChangeSpec := { name := "lawS0834AAheadIgnoresRound", fn := fun _ => fun
  | [d1, d2, d3, d4, d5, d6, d7, d8] => { results := [.lit (.bool true)], args := [d1, d2, d3, d4, d5, d6, d7, d8] }
  | _ => none }
def lawS0834AAheadIgnoresRoundRow : OpenClaim := { program := "ybulkqgc", sum := "fe872e194bbb266a37eddbb7e982c932a4a3102c67e65fd93e593c03c1539d42", func := "example.com/goodstanding/goodstanding/consensus.LawS0834AAheadIgnoresRound", spec := "lawS0834AAheadIgnoresRound", plainKeys := false, apart := false }
def LawS0834AAheadIgnoresRoundSaid : Prop := lawS0834AAheadIgnoresRoundRow.holds Yba.pinned (OpenSpec.ofChange lawS0834AAheadIgnoresRoundSpec)

/-- ITS FALSE NEIGHBOUR: 'it returns false'. Refute it at one input. -/
def lawS0834AAheadIgnoresRoundWrong : ChangeSpec := { name := "lawS0834AAheadIgnoresRound", fn := fun _ => fun
  | [d1, d2, d3, d4, d5, d6, d7, d8] => { results := [.lit (.bool false)], args := [d1, d2, d3, d4, d5, d6, d7, d8] }
  | _ => none }
def LawS0834AAheadIgnoresRoundWrongFalsely : Prop := lawS0834AAheadIgnoresRoundRow.holds Yba.pinned (OpenSpec.ofChange lawS0834AAheadIgnoresRoundWrong)

/-- 'consensus.LawS0834BRoundRobin': WHATEVER THE INPUT: true; the input reads as it did. -/
def lawS0834BRoundRobinSpec : ChangeSpec := { name := "lawS0834BRoundRobin", fn := fun _ => fun
  | [d1, d2, d3] => { results := [.lit (.bool true)], args := [d1, d2, d3] }
  | _ => none }
def lawS0834BRoundRobinRow : OpenClaim := { program := "ybulkqgc", sum := "fe872e194bbb266a37eddbb7e982c932a4a3102c67e65fd93e593c03c1539d42", func := "example.com/goodstanding/goodstanding/consensus.LawS0834BRoundRobin", spec := "lawS0834BRoundRobin", unfollowed := true, recurses := true, named := ["encoding/binary.BigEndian"], plainKeys := false, apart := false }
def LawS0834BRoundRobinSaid : Prop := lawS0834BRoundRobinRow.holds Yba.pinned (OpenSpec.ofChange lawS0834BRoundRobinSpec)

/-- ITS FALSE NEIGHBOUR: 'it returns false'. Refute it at one input. -/
def lawS0834BRoundRobinWrong : ChangeSpec := { name := "lawS0834BRoundRobin", fn := fun _ => fun
  | [d1, d2, d3] => { results := [.lit (.bool false)], args := [d1, d2, d3] }
  | _ => none }
def LawS0834BRoundRobinWrongFalsely : Prop := lawS0834BRoundRobinRow.holds Yba.pinned (OpenSpec.ofChange lawS0834BRoundRobinWrong)

/-- 'consensus.LawS0834BLottery': WHATEVER THE INPUT: true; the input reads as it did. -/
def lawS0834BLotterySpec : ChangeSpec := { name := "lawS0834BLottery", fn := fun _ => fun
  | [d1, d2, d3, d4] => { results := [.lit (.bool true)], args := [d1, d2, d3, d4] }
  | _ => none }
def lawS0834BLotteryRow : OpenClaim := { program := "ybulkqgc", sum := "fe872e194bbb266a37eddbb7e982c932a4a3102c67e65fd93e593c03c1539d42", func := "example.com/goodstanding/goodstanding/consensus.LawS0834BLottery", spec := "lawS0834BLottery", unfollowed := true, recurses := true, named := ["encoding/binary.BigEndian"], plainKeys := false, apart := false }
def LawS0834BLotterySaid : Prop := lawS0834BLotteryRow.holds Yba.pinned (OpenSpec.ofChange lawS0834BLotterySpec)

/-- ITS FALSE NEIGHBOUR: 'it returns false'. Refute it at one input. -/
def lawS0834BLotteryWrong : ChangeSpec := { name := "lawS0834BLottery", fn := fun _ => fun
  | [d1, d2, d3, d4] => { results := [.lit (.bool false)], args := [d1, d2, d3, d4] }
  | _ => none }
def LawS0834BLotteryWrongFalsely : Prop := lawS0834BLotteryRow.holds Yba.pinned (OpenSpec.ofChange lawS0834BLotteryWrong)

/-- 'consensus.LawS0834BPrefix': WHATEVER THE INPUT: true; the input reads as it did. -/
def lawS0834BPrefixSpec : ChangeSpec := { name := "lawS0834BPrefix", fn := fun _ => fun
  | [d1, d2, d3, d4, d5] => { results := [.lit (.bool true)], args := [d1, d2, d3, d4, d5] }
  | _ => none }
def lawS0834BPrefixRow : OpenClaim := { program := "ybulkqgc", sum := "fe872e194bbb266a37eddbb7e982c932a4a3102c67e65fd93e593c03c1539d42", func := "example.com/goodstanding/goodstanding/consensus.LawS0834BPrefix", spec := "lawS0834BPrefix", unfollowed := true, recurses := true, named := ["encoding/binary.BigEndian"], plainKeys := false, apart := false }
def LawS0834BPrefixSaid : Prop := lawS0834BPrefixRow.holds Yba.pinned (OpenSpec.ofChange lawS0834BPrefixSpec)

/-- ITS FALSE NEIGHBOUR: 'it returns false'. Refute it at one input. -/
def lawS0834BPrefixWrong : ChangeSpec := { name := "lawS0834BPrefix", fn := fun _ => fun
  | [d1, d2, d3, d4, d5] => { results := [.lit (.bool false)], args := [d1, d2, d3, d4, d5] }
  | _ => none }
def LawS0834BPrefixWrongFalsely : Prop := lawS0834BPrefixRow.holds Yba.pinned (OpenSpec.ofChange lawS0834BPrefixWrong)

/-- 'sim.LawS0834CQueue': WHATEVER THE INPUT: true; the input reads as it did. -/
def lawS0834CQueueSpec : ChangeSpec := { name := "lawS0834CQueue", fn := fun _ => fun
  | [d1, d2, d3] => { results := [.lit (.bool true)], args := [d1, d2, d3] }
  | _ => none }
def lawS0834CQueueRow : OpenClaim := { program := "ybulkqgc", sum := "fe872e194bbb266a37eddbb7e982c932a4a3102c67e65fd93e593c03c1539d42", func := "example.com/goodstanding/goodstanding/sim.LawS0834CQueue", spec := "lawS0834CQueue", unfollowed := true, recurses := true, plainKeys := false, apart := false }
def LawS0834CQueueSaid : Prop := lawS0834CQueueRow.holds Yba.pinned (OpenSpec.ofChange lawS0834CQueueSpec)

/-- ITS FALSE NEIGHBOUR: 'it returns false'. Refute it at one input. -/
def lawS0834CQueueWrong : ChangeSpec := { name := "lawS0834CQueue", fn := fun _ => fun
  | [d1, d2, d3] => { results := [.lit (.bool false)], args := [d1, d2, d3] }
  | _ => none }
def LawS0834CQueueWrongFalsely : Prop := lawS0834CQueueRow.holds Yba.pinned (OpenSpec.ofChange lawS0834CQueueWrong)

end Rows
end Go.Proofs.Ybulkqgc

/-
  No cell of these rows narrows 'for every input' (looked for: loops, veiled, ifaces, maps, wideKeys, modest, calm, conditions, laid).
  DERIVED. THE GIVEN ROWS OF THIS SEAT. 3 by the template 'for every input the law returns true; each argument reads behind the call as it read before'; 0 by the template 'total and deterministic' (their statements: YbulkaghkTotals.lean).
  GIVEN WITH THE SEED: the statements are not yours to turn. If you find one false, say at which input.
  Laid BY PROGRAM, IN A SANDBOX (cutbox-rows.mjs): the forced cells as the released guide's own fill.sh prints them over the translation ef471ae97ce22eff… (all of the seat's roots in one cut). By AI agents, Wed Nov 11 2026. No macro, syntax, notation, axiom, sorry.
-/
import Derived.Test.YbulkaghkChecked
import GoSem.Claim
import GoSem.ClaimJoined
import GoSem.ClaimMapViews
import Derived.JoinedTies
import Derived.KernelRfl
namespace Go.Proofs.Ybulkaghk
/- THE CELL 'sum', in the pinned program and in every row, IS THE sha256 OF THE DUMP (.gsa) THAT YbulkaghkProg.lean LOADS. Nothing in Lean hashes anything: it is a label: what it is worth is what the hold of that sum in a sandbox is worth. -/
noncomputable def Yba.pinned : Pinned := { name := "ybulkaghk", sum := "ef471ae97ce22eff680be38fafcbac130f06860abde8efb70e69844f12b74898", checked := Yba.checked }
namespace Rows
def none {H : Type} : Left H := { results := [], args := [] }

/-- 'packwright.LawS1609BRow': WHATEVER THE INPUT: true; the input reads as it did. -/
def lawS1609BRowSpec : ChangeSpec := { name := "lawS1609BRow", fn := fun _ => fun
  | [d1, d2, d3, d4] => { results := [.lit (.bool true)], args := [d1, d2, d3, d4] }
  | _ => none }
def lawS1609BRowRow : OpenClaim := { program := "ybulkaghk", sum := "ef471ae97ce22eff680be38fafcbac130f06860abde8efb70e69844f12b74898", func := "example.com/packwright/packwright.LawS1609BRow", spec := "lawS1609BRow", inPlace := ["math.Float64bits"], apart := false }
def LawS1609BRowSaid : Prop := lawS1609BRowRow.holds Yba.pinned (OpenSpec.ofChange lawS1609BRowSpec)

/-- ITS FALSE NEIGHBOUR: 'it returns false'. Refute it at one input. -/
def lawS1609BRowWrong : ChangeSpec := { name := "lawS1609BRow", fn := fun _ => fun
  | [d1, d2, d3, d4] => { results := [.lit (.bool false)], args := [d1, d2, d3, d4] }
  | _ => none }
def LawS1609BRowWrongFalsely : Prop := lawS1609BRowRow.holds Yba.pinned (OpenSpec.ofChange lawS1609BRowWrong)

/-- 'packwright.LawS1609CMatchesScan': WHATEVER THE INPUT: true; the input reads as it did. -/
def lawS1609CMatchesScanSpec : ChangeSpec := { name := "lawS1609CMatchesScan", fn := fun _ => fun
  | [d1, d2, d3, d4, d5] => { results := [.lit (.bool true)], args := [d1, d2, d3, d4, d5] }
  | _ => none }
def lawS1609CMatchesScanRow : OpenClaim := { program := "ybulkaghk", sum := "ef471ae97ce22eff680be38fafcbac130f06860abde8efb70e69844f12b74898", func := "example.com/packwright/packwright.LawS1609CMatchesScan", spec := "lawS1609CMatchesScan", apart := false }
def LawS1609CMatchesScanSaid : Prop := lawS1609CMatchesScanRow.holds Yba.pinned (OpenSpec.ofChange lawS1609CMatchesScanSpec)

/-- ITS FALSE NEIGHBOUR: 'it returns false'. Refute it at one input. -/
def lawS1609CMatchesScanWrong : ChangeSpec := { name := "lawS1609CMatchesScan", fn := fun _ => fun
  | [d1, d2, d3, d4, d5] => { results := [.lit (.bool false)], args := [d1, d2, d3, d4, d5] }
  | _ => none }
def LawS1609CMatchesScanWrongFalsely : Prop := lawS1609CMatchesScanRow.holds Yba.pinned (OpenSpec.ofChange lawS1609CMatchesScanWrong)

/-- 'packwright.LawS1609CSplitRange': WHATEVER THE INPUT: true; the input reads as it did. -/
def lawS1609CSplitRangeSpec : ChangeSpec := { name := "lawS1609CSplitRange", fn := fun _ => fun
  | [d1, d2, d3, d4, d5, d6] => { results := [.lit (.bool true)], args := [d1, d2, d3, d4, d5, d6] }
  | _ => none }
def lawS1609CSplitRangeRow : OpenClaim := { program := "ybulkaghk", sum := "ef471ae97ce22eff680be38fafcbac130f06860abde8efb70e69844f12b74898", func := "example.com/packwright/packwright.LawS1609CSplitRange", spec := "lawS1609CSplitRange", apart := false }
def LawS1609CSplitRangeSaid : Prop := lawS1609CSplitRangeRow.holds Yba.pinned (OpenSpec.ofChange lawS1609CSplitRangeSpec)

/-- ITS FALSE NEIGHBOUR: 'it returns false'. Refute it at one input. -/
def lawS1609CSplitRangeWrong : ChangeSpec := { name := "lawS1609CSplitRange", fn := fun _ => fun
  | [d1, d2, d3, d4, d5, d6] => { results := [.lit (.bool false)], args := [d1, d2, d3, d4, d5, d6] }
  | _ => none }
def LawS1609CSplitRangeWrongFalsely : Prop := lawS1609CSplitRangeRow.holds Yba.pinned (OpenSpec.ofChange lawS1609CSplitRangeWrong)

end Rows
end Go.Proofs.Ybulkaghk

/-
  No cell of these rows narrows 'for every input' (looked for: loops, veiled, ifaces, maps, wideKeys, modest, calm, conditions, laid).
  DERIVED. THE GIVEN ROWS OF THIS SEAT. 2 by the template 'for every input the law returns true; each argument reads behind the call as it read before'; 0 by the template 'total and deterministic' (their statements: YbulkagmgFmtTotals.lean).
  GIVEN WITH THE SEED: the statements are not yours to turn. If you find one false, say at which input.
  Laid BY PROGRAM, IN A SANDBOX (cutbox-rows.mjs): the forced cells as the released guide's own fill.sh prints them over the translation 1b4a9e2b5f3843c9… (all of the seat's roots in one cut). By AI agents, Wed Nov 11 2026. No macro, syntax, notation, axiom, sorry.
-/
import Derived.Test.YbulkagmgFmtChecked
import GoSem.Claim
import GoSem.ClaimJoined
import GoSem.ClaimMapViews
import Derived.JoinedTies
import Derived.KernelRfl
namespace Go.Proofs.YbulkagmgFmt
/- THE CELL 'sum', in the pinned program and in every row, IS THE sha256 OF THE DUMP (.gsa) THAT YbulkagmgFmtProg.lean LOADS. Nothing in Lean hashes anything: it is a label: what it is worth is what the hold of that sum in a sandbox is worth. -/
noncomputable def Ybaf.pinned : Pinned := { name := "ybulkagmgfmt", sum := "1b4a9e2b5f3843c9b73319af691144a290be642feec01e48753f2185ea9b32ba", checked := Ybaf.checked }
namespace Rows
def none {H : Type} : Left H := { results := [], args := [] }

/-- 'check.LawS1618BNames': WHATEVER THE INPUT: true; the input reads as it did. -/
def lawS1618BNamesSpec : ChangeSpec := { name := "lawS1618BNames", fn := fun _ => fun
  | [d] => { results := [.lit (.bool true)], args := [d] }
  | _ => none }
def lawS1618BNamesRow : OpenClaim := { program := "ybulkagmgfmt", sum := "1b4a9e2b5f3843c9b73319af691144a290be642feec01e48753f2185ea9b32ba", func := "example.com/replicheck/replicheck/check.LawS1618BNames", spec := "lawS1618BNames", stops := ["fmt.Sprintf"], inPlace := ["fmt.Sprintf"], apart := false }
/-- NO THEOREM (fmt's text is open here; it may be false): for the released tool's asking of the row's closed facts alone. THE STATEMENT IS 'LawS1618BNamesToldSaid' (YbulkagmgFmtCards.lean). -/
def LawS1618BNamesFormAsk : Prop := lawS1618BNamesRow.holds Ybaf.pinned (OpenSpec.ofChange lawS1618BNamesSpec)

/-- ITS FALSE NEIGHBOUR: 'it returns false'. Refute it at one input. -/
def lawS1618BNamesWrong : ChangeSpec := { name := "lawS1618BNames", fn := fun _ => fun
  | [d] => { results := [.lit (.bool false)], args := [d] }
  | _ => none }
def LawS1618BNamesWrongFormAsk : Prop := lawS1618BNamesRow.holds Ybaf.pinned (OpenSpec.ofChange lawS1618BNamesWrong)

/-- 'check.LawS1618BDistinct': WHATEVER THE INPUT: true; the input reads as it did. -/
def lawS1618BDistinctSpec : ChangeSpec := { name := "lawS1618BDistinct", fn := fun _ => fun
  | [d1, d2] => { results := [.lit (.bool true)], args := [d1, d2] }
  | _ => none }
def lawS1618BDistinctRow : OpenClaim := { program := "ybulkagmgfmt", sum := "1b4a9e2b5f3843c9b73319af691144a290be642feec01e48753f2185ea9b32ba", func := "example.com/replicheck/replicheck/check.LawS1618BDistinct", spec := "lawS1618BDistinct", stops := ["fmt.Sprintf"], inPlace := ["fmt.Sprintf"], apart := false }
/-- NO THEOREM (fmt's text is open here; it may be false): for the released tool's asking of the row's closed facts alone. THE STATEMENT IS 'LawS1618BDistinctToldSaid' (YbulkagmgFmtCards.lean). -/
def LawS1618BDistinctFormAsk : Prop := lawS1618BDistinctRow.holds Ybaf.pinned (OpenSpec.ofChange lawS1618BDistinctSpec)

/-- ITS FALSE NEIGHBOUR: 'it returns false'. Refute it at one input. -/
def lawS1618BDistinctWrong : ChangeSpec := { name := "lawS1618BDistinct", fn := fun _ => fun
  | [d1, d2] => { results := [.lit (.bool false)], args := [d1, d2] }
  | _ => none }
def LawS1618BDistinctWrongFormAsk : Prop := lawS1618BDistinctRow.holds Ybaf.pinned (OpenSpec.ofChange lawS1618BDistinctWrong)

end Rows
end Go.Proofs.YbulkagmgFmt

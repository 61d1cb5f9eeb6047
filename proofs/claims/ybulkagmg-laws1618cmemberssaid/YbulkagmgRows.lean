/-
  No cell of these rows narrows 'for every input' (looked for: loops, veiled, ifaces, maps, wideKeys, modest, calm, conditions, laid).
  DERIVED. THE GIVEN ROWS OF THIS SEAT. 3 by the template 'for every input the law returns true; each argument reads behind the call as it read before'; 0 by the template 'total and deterministic' (their statements: YbulkagmgTotals.lean).
  GIVEN WITH THE SEED: the statements are not yours to turn. If you find one false, say at which input.
  Laid BY PROGRAM, IN A SANDBOX (cutbox-rows.mjs): the forced cells as the released guide's own fill.sh prints them over the translation 0218ab70fc9224e8… (all of the seat's roots in one cut). By AI agents, Wed Nov 11 2026. No macro, syntax, notation, axiom, sorry.
-/
import Derived.Test.YbulkagmgChecked
import GoSem.Claim
import GoSem.ClaimJoined
import GoSem.ClaimMapViews
import Derived.JoinedTies
import Derived.KernelRfl
namespace Go.Proofs.Ybulkagmg
/- THE CELL 'sum', in the pinned program and in every row, IS THE sha256 OF THE DUMP (.gsa) THAT YbulkagmgProg.lean LOADS. Nothing in Lean hashes anything: it is a label: what it is worth is what the hold of that sum in a sandbox is worth. -/
noncomputable def Yba.pinned : Pinned := { name := "ybulkagmg", sum := "0218ab70fc9224e8fedd6800492451c8e2b2483c89bf07795dd629e5e03e2330", checked := Yba.checked }
namespace Rows
def none {H : Type} : Left H := { results := [], args := [] }

/-- 'check.LawS1618AOffers': WHATEVER THE INPUT: true; the input reads as it did. -/
def lawS1618AOffersSpec : ChangeSpec := { name := "lawS1618AOffers", fn := fun _ => fun
  | [d1, d2, d3, d4] => { results := [.lit (.bool true)], args := [d1, d2, d3, d4] }
  | _ => none }
def lawS1618AOffersRow : OpenClaim := { program := "ybulkagmg", sum := "0218ab70fc9224e8fedd6800492451c8e2b2483c89bf07795dd629e5e03e2330", func := "example.com/replicheck/replicheck/check.LawS1618AOffers", spec := "lawS1618AOffers", apart := false }
def LawS1618AOffersSaid : Prop := lawS1618AOffersRow.holds Yba.pinned (OpenSpec.ofChange lawS1618AOffersSpec)

/-- ITS FALSE NEIGHBOUR: 'it returns false'. Refute it at one input. -/
def lawS1618AOffersWrong : ChangeSpec := { name := "lawS1618AOffers", fn := fun _ => fun
  | [d1, d2, d3, d4] => { results := [.lit (.bool false)], args := [d1, d2, d3, d4] }
  | _ => none }
def LawS1618AOffersWrongFalsely : Prop := lawS1618AOffersRow.holds Yba.pinned (OpenSpec.ofChange lawS1618AOffersWrong)

/-- 'check.LawS1618CBytes': WHATEVER THE INPUT: true; the input reads as it did. -/
def lawS1618CBytesSpec : ChangeSpec := { name := "lawS1618CBytes", fn := fun _ => fun
  | [d1, d2] => { results := [.lit (.bool true)], args := [d1, d2] }
  | _ => none }
def lawS1618CBytesRow : OpenClaim := { program := "ybulkagmg", sum := "0218ab70fc9224e8fedd6800492451c8e2b2483c89bf07795dd629e5e03e2330", func := "example.com/replicheck/replicheck/check.LawS1618CBytes", spec := "lawS1618CBytes", apart := false }
def LawS1618CBytesSaid : Prop := lawS1618CBytesRow.holds Yba.pinned (OpenSpec.ofChange lawS1618CBytesSpec)

/-- ITS FALSE NEIGHBOUR: 'it returns false'. Refute it at one input. -/
def lawS1618CBytesWrong : ChangeSpec := { name := "lawS1618CBytes", fn := fun _ => fun
  | [d1, d2] => { results := [.lit (.bool false)], args := [d1, d2] }
  | _ => none }
def LawS1618CBytesWrongFalsely : Prop := lawS1618CBytesRow.holds Yba.pinned (OpenSpec.ofChange lawS1618CBytesWrong)

/-- 'check.LawS1618CMembers': WHATEVER THE INPUT: true; the input reads as it did. -/
def lawS1618CMembersSpec : ChangeSpec := { name := "lawS1618CMembers", fn := fun _ => fun
  | [d1, d2] => { results := [.lit (.bool true)], args := [d1, d2] }
  | _ => none }
def lawS1618CMembersRow : OpenClaim := { program := "ybulkagmg", sum := "0218ab70fc9224e8fedd6800492451c8e2b2483c89bf07795dd629e5e03e2330", func := "example.com/replicheck/replicheck/check.LawS1618CMembers", spec := "lawS1618CMembers", apart := false }
def LawS1618CMembersSaid : Prop := lawS1618CMembersRow.holds Yba.pinned (OpenSpec.ofChange lawS1618CMembersSpec)

/-- ITS FALSE NEIGHBOUR: 'it returns false'. Refute it at one input. -/
def lawS1618CMembersWrong : ChangeSpec := { name := "lawS1618CMembers", fn := fun _ => fun
  | [d1, d2] => { results := [.lit (.bool false)], args := [d1, d2] }
  | _ => none }
def LawS1618CMembersWrongFalsely : Prop := lawS1618CMembersRow.holds Yba.pinned (OpenSpec.ofChange lawS1618CMembersWrong)

end Rows
end Go.Proofs.Ybulkagmg

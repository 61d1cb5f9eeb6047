/-
  DERIVED. GIVEN WITH THE SEED: THE CARDS: each row of YbulkagmgFmtRows.lean that lists a variable, with what it lists TIED to the program's text (the seventh form; the later family's looks); each row that meets fmt, with fmt's text TOLD by the authors' own Lean function (tested against real Go, not proved from fmt's source: count such statements apart). THE CARD IS WHAT COUNTS. Prove the row's statement (the work); the ties are given (YbulkagmgFmtTie.lean); close each card by the builder's one call (the guide's Derived/Test/ToyasCard.lean, 'card_holds'). Laid BY PROGRAM, IN A SANDBOX (cutbox-door.mjs). By AI agents, Wed Nov 11 2026. No macro, syntax, notation, axiom, sorry.
-/
import Derived.Test.YbulkagmgFmtRows
import GoSem.ClaimSeven
namespace Go.Proofs.YbulkagmgFmt
namespace Rows

/-- THE TOLD CARD OF 'check.LawS1618BNames'. -/
def lawS1618BNamesCard : Claim7 := { stood := { row := lawS1618BNamesRow, standIns := [], harness := (true, "a9cde765483c3ba759a0228a8b4a19d1a9ace5725f01b58dd056acc283207438"), looks := false }, told := true, goes := false }
def LawS1618BNamesToldSaid : Prop := Claim7.holds Ybaf.pinned (.plain (OpenSpec.ofChange lawS1618BNamesSpec)) lawS1618BNamesCard
/-- ITS FALSE NEIGHBOUR. Refute it at one input. -/
def LawS1618BNamesToldWrongFalsely : Prop := Claim7.holds Ybaf.pinned (.plain (OpenSpec.ofChange lawS1618BNamesWrong)) lawS1618BNamesCard

/-- THE TOLD CARD OF 'check.LawS1618BDistinct'. -/
def lawS1618BDistinctCard : Claim7 := { stood := { row := lawS1618BDistinctRow, standIns := [], harness := (true, "a9cde765483c3ba759a0228a8b4a19d1a9ace5725f01b58dd056acc283207438"), looks := false }, told := true, goes := false }
def LawS1618BDistinctToldSaid : Prop := Claim7.holds Ybaf.pinned (.plain (OpenSpec.ofChange lawS1618BDistinctSpec)) lawS1618BDistinctCard
/-- ITS FALSE NEIGHBOUR. Refute it at one input. -/
def LawS1618BDistinctToldWrongFalsely : Prop := Claim7.holds Ybaf.pinned (.plain (OpenSpec.ofChange lawS1618BDistinctWrong)) lawS1618BDistinctCard
end Rows
end Go.Proofs.YbulkagmgFmt

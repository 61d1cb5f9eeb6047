/-
  DERIVED. GIVEN WITH THE SEED: THE CARDS: each row of YbulkagkqFmtRows.lean that lists a variable, with what it lists TIED to the program's text (the seventh form; the later family's looks); each row that meets fmt, with fmt's text TOLD by the authors' own Lean function (tested against real Go, not proved from fmt's source: count such statements apart). THE CARD IS WHAT COUNTS. Prove the row's statement (the work); the ties are given (YbulkagkqFmtTie.lean); close each card by the builder's one call (the guide's Derived/Test/ToyasCard.lean, 'card_holds'). Laid BY PROGRAM, IN A SANDBOX (cutbox-door.mjs). By AI agents, Wed Nov 11 2026. No macro, syntax, notation, axiom, sorry.
-/
import Derived.Test.YbulkagkqFmtRows
import GoSem.ClaimSeven
namespace Go.Proofs.YbulkagkqFmt
namespace Rows

/-- THE TOLD AND TIED CARD OF 'driftlock.LawS1615ABeginRefused'. -/
def lawS1615ABeginRefusedCard : Claim7 := { stood := { row := lawS1615ABeginRefusedRow, standIns := [], harness := (true, "ec1f1891258ad93197ad2a6ed7901faef9ec77ac1a00c1deef122013bdeb2e4f"), looks := true }, told := true, laidByText := true, laidKinds := [.sentinel, .sentinel], laidTests := true, laidLooks := .later, goes := false }
def LawS1615ABeginRefusedToldSaid : Prop := Claim7.holds Ybaf.pinned (.plain (OpenSpec.ofChange lawS1615ABeginRefusedSpec)) lawS1615ABeginRefusedCard
/-- ITS FALSE NEIGHBOUR. Refute it at one input. -/
def LawS1615ABeginRefusedToldWrongFalsely : Prop := Claim7.holds Ybaf.pinned (.plain (OpenSpec.ofChange lawS1615ABeginRefusedWrong)) lawS1615ABeginRefusedCard
end Rows
end Go.Proofs.YbulkagkqFmt

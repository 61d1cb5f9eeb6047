/-
  No cell of these rows narrows 'for every input' (looked for: loops, veiled, ifaces, maps, wideKeys, modest, calm, conditions, laid).
  DERIVED. THE GIVEN ROWS OF THIS SEAT. 2 by the template 'for every input the law returns true; each argument reads behind the call as it read before'; 0 by the template 'total and deterministic' (their statements: YbulkaggwTotals.lean).
  GIVEN WITH THE SEED: the statements are not yours to turn. If you find one false, say at which input.
  Laid BY PROGRAM, IN A SANDBOX (cutbox-rows.mjs): the forced cells as the released guide's own fill.sh prints them over the translation 74e510163de5fe4a… (all of the seat's roots in one cut). By AI agents, Wed Nov 11 2026. No macro, syntax, notation, axiom, sorry.
-/
import Derived.Test.YbulkaggwChecked
import GoSem.Claim
import GoSem.ClaimJoined
import GoSem.ClaimMapViews
import Derived.JoinedTies
import Derived.KernelRfl
namespace Go.Proofs.Ybulkaggw
/- THE CELL 'sum', in the pinned program and in every row, IS THE sha256 OF THE DUMP (.gsa) THAT YbulkaggwProg.lean LOADS. Nothing in Lean hashes anything: it is a label: what it is worth is what the hold of that sum in a sandbox is worth. -/
noncomputable def Yba.pinned : Pinned := { name := "ybulkaggw", sum := "74e510163de5fe4aadbdfe88e01dc681dbca89b2c7c29179fd7fc4705d009e7d", checked := Yba.checked }
namespace Rows
def none {H : Type} : Left H := { results := [], args := [] }

/-- 'limits.LawS1608BOpen': WHATEVER THE INPUT: true; the input reads as it did. -/
def lawS1608BOpenSpec : ChangeSpec := { name := "lawS1608BOpen", fn := fun _ => fun
  | [d1, d2] => { results := [.lit (.bool true)], args := [d1, d2] }
  | _ => none }
def lawS1608BOpenRow : OpenClaim := { program := "ybulkaggw", sum := "74e510163de5fe4aadbdfe88e01dc681dbca89b2c7c29179fd7fc4705d009e7d", func := "example.com/tuoguan/tuoguan/limits.LawS1608BOpen", spec := "lawS1608BOpen", apart := false }
def LawS1608BOpenSaid : Prop := lawS1608BOpenRow.holds Yba.pinned (OpenSpec.ofChange lawS1608BOpenSpec)

/-- ITS FALSE NEIGHBOUR: 'it returns false'. Refute it at one input. -/
def lawS1608BOpenWrong : ChangeSpec := { name := "lawS1608BOpen", fn := fun _ => fun
  | [d1, d2] => { results := [.lit (.bool false)], args := [d1, d2] }
  | _ => none }
def LawS1608BOpenWrongFalsely : Prop := lawS1608BOpenRow.holds Yba.pinned (OpenSpec.ofChange lawS1608BOpenWrong)

/-- 'limits.LawS1608BSupervisor': WHATEVER THE INPUT: true; the input reads as it did. -/
def lawS1608BSupervisorSpec : ChangeSpec := { name := "lawS1608BSupervisor", fn := fun _ => fun
  | [d1, d2] => { results := [.lit (.bool true)], args := [d1, d2] }
  | _ => none }
def lawS1608BSupervisorRow : OpenClaim := { program := "ybulkaggw", sum := "74e510163de5fe4aadbdfe88e01dc681dbca89b2c7c29179fd7fc4705d009e7d", func := "example.com/tuoguan/tuoguan/limits.LawS1608BSupervisor", spec := "lawS1608BSupervisor", apart := false }
def LawS1608BSupervisorSaid : Prop := lawS1608BSupervisorRow.holds Yba.pinned (OpenSpec.ofChange lawS1608BSupervisorSpec)

/-- ITS FALSE NEIGHBOUR: 'it returns false'. Refute it at one input. -/
def lawS1608BSupervisorWrong : ChangeSpec := { name := "lawS1608BSupervisor", fn := fun _ => fun
  | [d1, d2] => { results := [.lit (.bool false)], args := [d1, d2] }
  | _ => none }
def LawS1608BSupervisorWrongFalsely : Prop := lawS1608BSupervisorRow.holds Yba.pinned (OpenSpec.ofChange lawS1608BSupervisorWrong)

end Rows
end Go.Proofs.Ybulkaggw

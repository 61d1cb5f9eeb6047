/-
  No cell of these rows narrows 'for every input' (looked for: loops, veiled, ifaces, maps, wideKeys, modest, calm, conditions, laid).
  DERIVED. THE GIVEN ROWS OF THIS SEAT. 4 by the template 'for every input the law returns true; each argument reads behind the call as it read before'; 0 by the template 'total and deterministic' (their statements: YbulkagkqTotals.lean).
  GIVEN WITH THE SEED: the statements are not yours to turn. If you find one false, say at which input.
  Laid BY PROGRAM, IN A SANDBOX (cutbox-rows.mjs): the forced cells as the released guide's own fill.sh prints them over the translation 4eca023dacc24a28… (all of the seat's roots in one cut). By AI agents, Wed Nov 11 2026. No macro, syntax, notation, axiom, sorry.
-/
import Derived.Test.YbulkagkqChecked
import GoSem.Claim
import GoSem.ClaimJoined
import GoSem.ClaimMapViews
import Derived.JoinedTies
import Derived.KernelRfl
namespace Go.Proofs.Ybulkagkq
/- THE CELL 'sum', in the pinned program and in every row, IS THE sha256 OF THE DUMP (.gsa) THAT YbulkagkqProg.lean LOADS. Nothing in Lean hashes anything: it is a label: what it is worth is what the hold of that sum in a sandbox is worth. -/
noncomputable def Yba.pinned : Pinned := { name := "ybulkagkq", sum := "4eca023dacc24a286fd296cd48f1581416f01f46a0eca78bc44d3b73be742a9e", checked := Yba.checked }
namespace Rows
def none {H : Type} : Left H := { results := [], args := [] }

/-- 'driftlock.LawS1615AExact': WHATEVER THE INPUT: true; the input reads as it did. -/
def lawS1615AExactSpec : ChangeSpec := { name := "lawS1615AExact", fn := fun _ => fun
  | [d1, d2, d3, d4, d5, d6] => { results := [.lit (.bool true)], args := [d1, d2, d3, d4, d5, d6] }
  | _ => none }
def lawS1615AExactRow : OpenClaim := { program := "ybulkagkq", sum := "4eca023dacc24a286fd296cd48f1581416f01f46a0eca78bc44d3b73be742a9e", func := "example.com/driftlock/driftlock.LawS1615AExact", spec := "lawS1615AExact", inPlace := ["(*sync.RWMutex).RLock", "internal/race.Read", "internal/race.Disable", "sync/atomic.AddInt32", "sync.runtime_SemacquireRWMutexR", "internal/race.Enable", "internal/race.Acquire", "(*sync.RWMutex).RUnlock", "internal/race.ReleaseMerge", "(*sync.RWMutex).rUnlockSlow", "sync.fatal", "sync.runtime_Semrelease"], plainKeys := false, apart := false }
def LawS1615AExactSaid : Prop := lawS1615AExactRow.holds Yba.pinned (OpenSpec.ofChange lawS1615AExactSpec)

/-- ITS FALSE NEIGHBOUR: 'it returns false'. Refute it at one input. -/
def lawS1615AExactWrong : ChangeSpec := { name := "lawS1615AExact", fn := fun _ => fun
  | [d1, d2, d3, d4, d5, d6] => { results := [.lit (.bool false)], args := [d1, d2, d3, d4, d5, d6] }
  | _ => none }
def LawS1615AExactWrongFalsely : Prop := lawS1615AExactRow.holds Yba.pinned (OpenSpec.ofChange lawS1615AExactWrong)

/-- 'driftlock.LawS1615CCounts': WHATEVER THE INPUT: true; the input reads as it did. -/
def lawS1615CCountsSpec : ChangeSpec := { name := "lawS1615CCounts", fn := fun _ => fun
  | [d] => { results := [.lit (.bool true)], args := [d] }
  | _ => none }
def lawS1615CCountsRow : OpenClaim := { program := "ybulkagkq", sum := "4eca023dacc24a286fd296cd48f1581416f01f46a0eca78bc44d3b73be742a9e", func := "example.com/driftlock/driftlock.LawS1615CCounts", spec := "lawS1615CCounts", unfollowed := true, recurses := true, plainKeys := false, apart := false }
def LawS1615CCountsSaid : Prop := lawS1615CCountsRow.holds Yba.pinned (OpenSpec.ofChange lawS1615CCountsSpec)

/-- ITS FALSE NEIGHBOUR: 'it returns false'. Refute it at one input. -/
def lawS1615CCountsWrong : ChangeSpec := { name := "lawS1615CCounts", fn := fun _ => fun
  | [d] => { results := [.lit (.bool false)], args := [d] }
  | _ => none }
def LawS1615CCountsWrongFalsely : Prop := lawS1615CCountsRow.holds Yba.pinned (OpenSpec.ofChange lawS1615CCountsWrong)

/-- 'driftlock.LawS1615CHeap': WHATEVER THE INPUT: true; the input reads as it did. -/
def lawS1615CHeapSpec : ChangeSpec := { name := "lawS1615CHeap", fn := fun _ => fun
  | [d] => { results := [.lit (.bool true)], args := [d] }
  | _ => none }
def lawS1615CHeapRow : OpenClaim := { program := "ybulkagkq", sum := "4eca023dacc24a286fd296cd48f1581416f01f46a0eca78bc44d3b73be742a9e", func := "example.com/driftlock/driftlock.LawS1615CHeap", spec := "lawS1615CHeap", unfollowed := true, recurses := true, plainKeys := false, apart := false }
def LawS1615CHeapSaid : Prop := lawS1615CHeapRow.holds Yba.pinned (OpenSpec.ofChange lawS1615CHeapSpec)

/-- ITS FALSE NEIGHBOUR: 'it returns false'. Refute it at one input. -/
def lawS1615CHeapWrong : ChangeSpec := { name := "lawS1615CHeap", fn := fun _ => fun
  | [d] => { results := [.lit (.bool false)], args := [d] }
  | _ => none }
def LawS1615CHeapWrongFalsely : Prop := lawS1615CHeapRow.holds Yba.pinned (OpenSpec.ofChange lawS1615CHeapWrong)

/-- 'driftlock.LawS1615CExpire': WHATEVER THE INPUT: true; the input reads as it did. -/
def lawS1615CExpireSpec : ChangeSpec := { name := "lawS1615CExpire", fn := fun _ => fun
  | [d1, d2] => { results := [.lit (.bool true)], args := [d1, d2] }
  | _ => none }
def lawS1615CExpireRow : OpenClaim := { program := "ybulkagkq", sum := "4eca023dacc24a286fd296cd48f1581416f01f46a0eca78bc44d3b73be742a9e", func := "example.com/driftlock/driftlock.LawS1615CExpire", spec := "lawS1615CExpire", unfollowed := true, recurses := true, plainKeys := false, apart := false }
def LawS1615CExpireSaid : Prop := lawS1615CExpireRow.holds Yba.pinned (OpenSpec.ofChange lawS1615CExpireSpec)

/-- ITS FALSE NEIGHBOUR: 'it returns false'. Refute it at one input. -/
def lawS1615CExpireWrong : ChangeSpec := { name := "lawS1615CExpire", fn := fun _ => fun
  | [d1, d2] => { results := [.lit (.bool false)], args := [d1, d2] }
  | _ => none }
def LawS1615CExpireWrongFalsely : Prop := lawS1615CExpireRow.holds Yba.pinned (OpenSpec.ofChange lawS1615CExpireWrong)

end Rows
end Go.Proofs.Ybulkagkq

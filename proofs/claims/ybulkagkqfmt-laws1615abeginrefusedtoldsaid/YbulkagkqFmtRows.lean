/-
  NARROWER THAN 'FOR EVERY INPUT', by the rows' own cells (each row's printed sentence says how): LawS1615ABeginRefused: ifaces, laid.
  DERIVED. THE GIVEN ROWS OF THIS SEAT. 1 by the template 'for every input the law returns true; each argument reads behind the call as it read before'; 0 by the template 'total and deterministic' (their statements: YbulkagkqFmtTotals.lean).
  GIVEN WITH THE SEED: the statements are not yours to turn. If you find one false, say at which input.
  Laid BY PROGRAM, IN A SANDBOX (cutbox-rows.mjs): the forced cells as the released guide's own fill.sh prints them over the translation 8ae226632fc90637… (all of the seat's roots in one cut). By AI agents, Wed Nov 11 2026. No macro, syntax, notation, axiom, sorry.
-/
import Derived.Test.YbulkagkqFmtChecked
import GoSem.Claim
import GoSem.ClaimJoined
import GoSem.ClaimMapViews
import Derived.JoinedTies
import Derived.KernelRfl
namespace Go.Proofs.YbulkagkqFmt
/- THE CELL 'sum', in the pinned program and in every row, IS THE sha256 OF THE DUMP (.gsa) THAT YbulkagkqFmtProg.lean LOADS. Nothing in Lean hashes anything: it is a label: what it is worth is what the hold of that sum in a sandbox is worth. -/
noncomputable def Ybaf.pinned : Pinned := { name := "ybulkagkqfmt", sum := "8ae226632fc906375818bb2167c5c106716446bd88967c647c3599bba2a591e9", checked := Ybaf.checked }
namespace Rows
def none {H : Type} : Left H := { results := [], args := [] }

/- WHAT THE LISTED PACKAGE-LEVEL VARIABLES READ AS WHEN THE CALL BEGINS. Each datum BY PROGRAM (the guide's laid-datum.mjs) off the statement by which the dump's own 'gosem.cut.vars' lays the variable. In a bare row this is a premise. The card (YbulkagkqFmtCards.lean) ties it to the program's text. -/
def laid_example_com_driftlock_driftlock_ErrBlockOpen {H : Type} : DataW H := .iface "*errors.errorString" (.ptr (.agg [.lit (.string [100, 114, 105, 102, 116, 108, 111, 99, 107, 58, 32, 97, 32, 98, 108, 111, 99, 107, 32, 105, 115, 32, 97, 108, 114, 101, 97, 100, 121, 32, 111, 112, 101, 110])]))
def laid_example_com_driftlock_driftlock_ErrBlockOrder {H : Type} : DataW H := .iface "*errors.errorString" (.ptr (.agg [.lit (.string [100, 114, 105, 102, 116, 108, 111, 99, 107, 58, 32, 98, 108, 111, 99, 107, 32, 100, 111, 101, 115, 32, 110, 111, 116, 32, 102, 111, 108, 108, 111, 119, 32, 116, 104, 101, 32, 108, 97, 115, 116, 32, 99, 111, 109, 109, 105, 116, 116, 101, 100, 32, 98, 108, 111, 99, 107])]))

/-- 'driftlock.LawS1615ABeginRefused': WHATEVER THE INPUT: true; the input reads as it did. -/
def lawS1615ABeginRefusedSpec : ChangeSpec := { name := "lawS1615ABeginRefused", vars := ["example.com/driftlock/driftlock.ErrBlockOpen", "example.com/driftlock/driftlock.ErrBlockOrder"], fn := fun _ => fun
  | [d1, d2, d3, g1, g2] => { results := [.lit (.bool true)], args := [d1, d2, d3], vars := [g1, g2] }
  | _ => none }
def lawS1615ABeginRefusedRow : OpenClaim := { program := "ybulkagkqfmt", sum := "8ae226632fc906375818bb2167c5c106716446bd88967c647c3599bba2a591e9", func := "example.com/driftlock/driftlock.LawS1615ABeginRefused", spec := "lawS1615ABeginRefused", stops := ["fmt.errorf"], inPlace := ["(*sync.RWMutex).RLock", "internal/race.Read", "internal/race.Disable", "sync/atomic.AddInt32", "sync.runtime_SemacquireRWMutexR", "internal/race.Enable", "internal/race.Acquire", "(*sync.RWMutex).RUnlock", "internal/race.ReleaseMerge", "(*sync.RWMutex).rUnlockSlow", "sync.fatal", "sync.runtime_Semrelease", "(*sync.RWMutex).Lock", "(*internal/sync.Mutex).Lock", "sync/atomic.CompareAndSwapInt32", "(*internal/sync.Mutex).lockSlow", "internal/sync.runtime_canSpin", "internal/sync.runtime_doSpin", "internal/sync.throw", "internal/sync.runtime_nanotime", "internal/sync.runtime_SemacquireMutex", "sync.runtime_SemacquireRWMutex", "(*sync.RWMutex).Unlock", "internal/race.Release", "(*internal/sync.Mutex).Unlock", "(*internal/sync.Mutex).unlockSlow", "internal/sync.fatal", "internal/sync.runtime_Semrelease", "fmt.errorf", "internal/reflectlite.TypeOf"], unfollowed := true, recurses := true, named := ["example.com/driftlock/driftlock.ErrBlockOpen", "example.com/driftlock/driftlock.ErrBlockOrder"], ifaces := true, plainKeys := false, apart := false, laid := [("example.com/driftlock/driftlock.ErrBlockOpen", laid_example_com_driftlock_driftlock_ErrBlockOpen), ("example.com/driftlock/driftlock.ErrBlockOrder", laid_example_com_driftlock_driftlock_ErrBlockOrder)] }
/-- NO THEOREM (fmt's text is open here; it may be false): for the released tool's asking of the row's closed facts alone. THE STATEMENT IS 'LawS1615ABeginRefusedToldSaid' (YbulkagkqFmtCards.lean). -/
def LawS1615ABeginRefusedFormAsk : Prop := lawS1615ABeginRefusedRow.holds Ybaf.pinned (OpenSpec.ofChange lawS1615ABeginRefusedSpec)

/-- ITS FALSE NEIGHBOUR: 'it returns false'. Refute it at one input. -/
def lawS1615ABeginRefusedWrong : ChangeSpec := { name := "lawS1615ABeginRefused", vars := ["example.com/driftlock/driftlock.ErrBlockOpen", "example.com/driftlock/driftlock.ErrBlockOrder"], fn := fun _ => fun
  | [d1, d2, d3, g1, g2] => { results := [.lit (.bool false)], args := [d1, d2, d3], vars := [g1, g2] }
  | _ => none }
def LawS1615ABeginRefusedWrongFormAsk : Prop := lawS1615ABeginRefusedRow.holds Ybaf.pinned (OpenSpec.ofChange lawS1615ABeginRefusedWrong)

end Rows
end Go.Proofs.YbulkagkqFmt

/-
  No cell of these rows narrows 'for every input' (looked for: loops, veiled, ifaces, maps, wideKeys, modest, calm, conditions, laid).
  DERIVED. THE GIVEN ROWS OF THIS SEAT. 2 by the template 'for every input the law returns true; each argument reads behind the call as it read before'; 0 by the template 'total and deterministic' (their statements: YbulkcfnaTotals.lean).
  GIVEN WITH THE SEED: the statements are not yours to turn. If you find one false, say at which input.
  Laid BY PROGRAM, IN A SANDBOX (cutbox-rows.mjs): the forced cells as the released guide's own fill.sh prints them over the translation a9cde397c3b18791… (all of the seat's roots in one cut). By AI agents, Wed Nov 11 2026. No macro, syntax, notation, axiom, sorry.
-/
import Derived.Test.YbulkcfnaChecked
import GoSem.Claim
import GoSem.ClaimJoined
import GoSem.ClaimMapViews
import Derived.JoinedTies
import Derived.KernelRfl
namespace Go.Proofs.Ybulkcfna
/- THE CELL 'sum', in the pinned program and in every row, IS THE sha256 OF THE DUMP (.gsa) THAT YbulkcfnaProg.lean LOADS. Nothing in Lean hashes anything: it is a label: what it is worth is what the hold of that sum in a sandbox is worth. -/
noncomputable def Yba.pinned : Pinned := { name := "ybulkcfna", sum := "a9cde397c3b18791812f9192a6349ffdae42909a882386d99f98aac65bf9c616", checked := Yba.checked }
namespace Rows
def none {H : Type} : Left H := { results := [], args := [] }

/-- 'atomic.LawS4082AScript': WHATEVER THE INPUT: true; the input reads as it did. -/
def lawS4082AScriptSpec : ChangeSpec := { name := "lawS4082AScript", fn := fun _ => fun
  | [d1, d2] => { results := [.lit (.bool true)], args := [d1, d2] }
  | _ => none }
def lawS4082AScriptRow : OpenClaim := { program := "ybulkcfna", sum := "a9cde397c3b18791812f9192a6349ffdae42909a882386d99f98aac65bf9c616", func := "example.com/halyard/halyard/internal/bridge/source/sync/atomic.LawS4082AScript", spec := "lawS4082AScript", inPlace := ["(*internal/sync.Mutex).Lock", "internal/race.Disable", "sync/atomic.CompareAndSwapInt32", "internal/race.Enable", "internal/race.Acquire", "(*internal/sync.Mutex).lockSlow", "internal/sync.runtime_canSpin", "internal/sync.runtime_doSpin", "internal/sync.throw", "internal/sync.runtime_nanotime", "internal/sync.runtime_SemacquireMutex", "sync/atomic.AddInt32", "(*internal/sync.Mutex).Unlock", "internal/race.ReleaseMerge", "(*internal/sync.Mutex).unlockSlow", "internal/sync.fatal", "internal/sync.runtime_Semrelease", "(*internal/sync.Mutex).TryLock"], apart := false }
def LawS4082AScriptSaid : Prop := lawS4082AScriptRow.holds Yba.pinned (OpenSpec.ofChange lawS4082AScriptSpec)

/-- ITS FALSE NEIGHBOUR: 'it returns false'. Refute it at one input. -/
def lawS4082AScriptWrong : ChangeSpec := { name := "lawS4082AScript", fn := fun _ => fun
  | [d1, d2] => { results := [.lit (.bool false)], args := [d1, d2] }
  | _ => none }
def LawS4082AScriptWrongFalsely : Prop := lawS4082AScriptRow.holds Yba.pinned (OpenSpec.ofChange lawS4082AScriptWrong)

/-- 'atomic.LawS4082AHeld': WHATEVER THE INPUT: true; the input reads as it did. -/
def lawS4082AHeldSpec : ChangeSpec := { name := "lawS4082AHeld", fn := fun _ => fun
  | [d1, d2] => { results := [.lit (.bool true)], args := [d1, d2] }
  | _ => none }
def lawS4082AHeldRow : OpenClaim := { program := "ybulkcfna", sum := "a9cde397c3b18791812f9192a6349ffdae42909a882386d99f98aac65bf9c616", func := "example.com/halyard/halyard/internal/bridge/source/sync/atomic.LawS4082AHeld", spec := "lawS4082AHeld", inPlace := ["(*internal/sync.Mutex).Lock", "internal/race.Disable", "sync/atomic.CompareAndSwapInt32", "internal/race.Enable", "internal/race.Acquire", "(*internal/sync.Mutex).lockSlow", "internal/sync.runtime_canSpin", "internal/sync.runtime_doSpin", "internal/sync.throw", "internal/sync.runtime_nanotime", "internal/sync.runtime_SemacquireMutex", "sync/atomic.AddInt32", "(*internal/sync.Mutex).Unlock", "internal/race.ReleaseMerge", "(*internal/sync.Mutex).unlockSlow", "internal/sync.fatal", "internal/sync.runtime_Semrelease", "(*internal/sync.Mutex).TryLock"], apart := false }
def LawS4082AHeldSaid : Prop := lawS4082AHeldRow.holds Yba.pinned (OpenSpec.ofChange lawS4082AHeldSpec)

/-- ITS FALSE NEIGHBOUR: 'it returns false'. Refute it at one input. -/
def lawS4082AHeldWrong : ChangeSpec := { name := "lawS4082AHeld", fn := fun _ => fun
  | [d1, d2] => { results := [.lit (.bool false)], args := [d1, d2] }
  | _ => none }
def LawS4082AHeldWrongFalsely : Prop := lawS4082AHeldRow.holds Yba.pinned (OpenSpec.ofChange lawS4082AHeldWrong)

end Rows
end Go.Proofs.Ybulkcfna

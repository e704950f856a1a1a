/-
  NARROWER THAN 'FOR EVERY INPUT', by the rows' own cells (each row's printed sentence says how): LawS4083CLookup: ifaces, laid.
  DERIVED. THE GIVEN ROWS OF THIS SEAT. 1 by the template 'for every input the law returns true; each argument reads behind the call as it read before'; 0 by the template 'total and deterministic' (their statements: YbulkcfnoFmtTotals.lean).
  GIVEN WITH THE SEED: the statements are not yours to turn. If you find one false, say at which input.
  Laid BY PROGRAM, IN A SANDBOX (cutbox-rows.mjs): the forced cells as the released guide's own fill.sh prints them over the translation 644622376054fee1… (all of the seat's roots in one cut). By AI agents, Wed Nov 11 2026. No macro, syntax, notation, axiom, sorry.
-/
import Derived.Test.YbulkcfnoFmtChecked
import GoSem.Claim
import GoSem.ClaimJoined
import GoSem.ClaimMapViews
import Derived.JoinedTies
import Derived.KernelRfl
namespace Go.Proofs.YbulkcfnoFmt
/- THE CELL 'sum', in the pinned program and in every row, IS THE sha256 OF THE DUMP (.gsa) THAT YbulkcfnoFmtProg.lean LOADS. Nothing in Lean hashes anything: it is a label: what it is worth is what the hold of that sum in a sandbox is worth. -/
noncomputable def Ybaf.pinned : Pinned := { name := "ybulkcfnofmt", sum := "644622376054fee155845a80cbeb2036e39c8a51a84599f15ffc08b6367b29a4", checked := Ybaf.checked }
namespace Rows
def none {H : Type} : Left H := { results := [], args := [] }

/- WHAT THE LISTED PACKAGE-LEVEL VARIABLES READ AS WHEN THE CALL BEGINS. Each datum BY PROGRAM (the guide's laid-datum.mjs) off the statement by which the dump's own 'gosem.cut.vars' lays the variable. In a bare row this is a premise. The card (YbulkcfnoFmtCards.lean) ties it to the program's text. -/
def laid_example_com_drover_drover_internal_queue_ErrUnknownSchedule {H : Type} : DataW H := .iface "*errors.errorString" (.ptr (.agg [.lit (.string [117, 110, 107, 110, 111, 119, 110, 32, 115, 99, 104, 101, 100, 117, 108, 101])]))

/-- 'queue.LawS4083CLookup': WHATEVER THE INPUT: true; the input reads as it did. -/
def lawS4083CLookupSpec : ChangeSpec := { name := "lawS4083CLookup", vars := ["example.com/drover/drover/internal/queue.ErrUnknownSchedule"], fn := fun _ => fun
  | [d1, d2, d3, d4, g1] => { results := [.lit (.bool true)], args := [d1, d2, d3, d4], vars := [g1] }
  | _ => none }
def lawS4083CLookupRow : OpenClaim := { program := "ybulkcfnofmt", sum := "644622376054fee155845a80cbeb2036e39c8a51a84599f15ffc08b6367b29a4", func := "example.com/drover/drover/internal/queue.LawS4083CLookup", spec := "lawS4083CLookup", stops := ["fmt.errorf"], inPlace := ["(*internal/sync.Mutex).Lock", "internal/race.Disable", "sync/atomic.CompareAndSwapInt32", "internal/race.Enable", "internal/race.Acquire", "(*internal/sync.Mutex).lockSlow", "internal/sync.runtime_canSpin", "internal/sync.runtime_doSpin", "internal/sync.throw", "internal/sync.runtime_nanotime", "internal/sync.runtime_SemacquireMutex", "sync/atomic.AddInt32", "(*internal/sync.Mutex).Unlock", "internal/race.ReleaseMerge", "(*internal/sync.Mutex).unlockSlow", "internal/sync.fatal", "internal/sync.runtime_Semrelease", "fmt.errorf", "(*internal/sync.Mutex).TryLock", "internal/reflectlite.TypeOf"], unfollowed := true, recurses := true, named := ["example.com/drover/drover/internal/queue.ErrUnknownSchedule"], ifaces := true, plainKeys := false, apart := false, laid := [("example.com/drover/drover/internal/queue.ErrUnknownSchedule", laid_example_com_drover_drover_internal_queue_ErrUnknownSchedule)] }
/-- NO THEOREM (fmt's text is open here; it may be false): for the released tool's asking of the row's closed facts alone. THE STATEMENT IS 'LawS4083CLookupToldSaid' (YbulkcfnoFmtCards.lean). -/
def LawS4083CLookupFormAsk : Prop := lawS4083CLookupRow.holds Ybaf.pinned (OpenSpec.ofChange lawS4083CLookupSpec)

/-- ITS FALSE NEIGHBOUR: 'it returns false'. Refute it at one input. -/
def lawS4083CLookupWrong : ChangeSpec := { name := "lawS4083CLookup", vars := ["example.com/drover/drover/internal/queue.ErrUnknownSchedule"], fn := fun _ => fun
  | [d1, d2, d3, d4, g1] => { results := [.lit (.bool false)], args := [d1, d2, d3, d4], vars := [g1] }
  | _ => none }
def LawS4083CLookupWrongFormAsk : Prop := lawS4083CLookupRow.holds Ybaf.pinned (OpenSpec.ofChange lawS4083CLookupWrong)

end Rows
end Go.Proofs.YbulkcfnoFmt

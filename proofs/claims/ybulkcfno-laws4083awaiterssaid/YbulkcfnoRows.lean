/-
  No cell of these rows narrows 'for every input' (looked for: loops, veiled, ifaces, maps, wideKeys, modest, calm, conditions, laid).
  DERIVED. THE GIVEN ROWS OF THIS SEAT. 2 by the template 'for every input the law returns true; each argument reads behind the call as it read before'; 0 by the template 'total and deterministic' (their statements: YbulkcfnoTotals.lean).
  GIVEN WITH THE SEED: the statements are not yours to turn. If you find one false, say at which input.
  Laid BY PROGRAM, IN A SANDBOX (cutbox-rows.mjs): the forced cells as the released guide's own fill.sh prints them over the translation 778fa15f21792f12… (all of the seat's roots in one cut). By AI agents, Wed Nov 11 2026. No macro, syntax, notation, axiom, sorry.
-/
import Derived.Test.YbulkcfnoChecked
import GoSem.Claim
import GoSem.ClaimJoined
import GoSem.ClaimMapViews
import Derived.JoinedTies
import Derived.KernelRfl
namespace Go.Proofs.Ybulkcfno
/- THE CELL 'sum', in the pinned program and in every row, IS THE sha256 OF THE DUMP (.gsa) THAT YbulkcfnoProg.lean LOADS. Nothing in Lean hashes anything: it is a label: what it is worth is what the hold of that sum in a sandbox is worth. -/
noncomputable def Yba.pinned : Pinned := { name := "ybulkcfno", sum := "778fa15f21792f1204d5b1b0ee1d850787d1b5dfbc871570bff5e5eb23cfc6f2", checked := Yba.checked }
namespace Rows
def none {H : Type} : Left H := { results := [], args := [] }

/-- 'queue.LawS4083AWaiters': WHATEVER THE INPUT: true; the input reads as it did. -/
def lawS4083AWaitersSpec : ChangeSpec := { name := "lawS4083AWaiters", fn := fun _ => fun
  | [d1, d2, d3, d4] => { results := [.lit (.bool true)], args := [d1, d2, d3, d4] }
  | _ => none }
def lawS4083AWaitersRow : OpenClaim := { program := "ybulkcfno", sum := "778fa15f21792f1204d5b1b0ee1d850787d1b5dfbc871570bff5e5eb23cfc6f2", func := "example.com/drover/drover/internal/queue.LawS4083AWaiters", spec := "lawS4083AWaiters", plainKeys := false, apart := false }
def LawS4083AWaitersSaid : Prop := lawS4083AWaitersRow.holds Yba.pinned (OpenSpec.ofChange lawS4083AWaitersSpec)

/-- ITS FALSE NEIGHBOUR: 'it returns false'. Refute it at one input. -/
def lawS4083AWaitersWrong : ChangeSpec := { name := "lawS4083AWaiters", fn := fun _ => fun
  | [d1, d2, d3, d4] => { results := [.lit (.bool false)], args := [d1, d2, d3, d4] }
  | _ => none }
def LawS4083AWaitersWrongFalsely : Prop := lawS4083AWaitersRow.holds Yba.pinned (OpenSpec.ofChange lawS4083AWaitersWrong)

/-- 'queue.LawS4083AWaits': WHATEVER THE INPUT: true; the input reads as it did. -/
def lawS4083AWaitsSpec : ChangeSpec := { name := "lawS4083AWaits", fn := fun _ => fun
  | [d1, d2, d3, d4] => { results := [.lit (.bool true)], args := [d1, d2, d3, d4] }
  | _ => none }
def lawS4083AWaitsRow : OpenClaim := { program := "ybulkcfno", sum := "778fa15f21792f1204d5b1b0ee1d850787d1b5dfbc871570bff5e5eb23cfc6f2", func := "example.com/drover/drover/internal/queue.LawS4083AWaits", spec := "lawS4083AWaits", plainKeys := false, apart := false }
def LawS4083AWaitsSaid : Prop := lawS4083AWaitsRow.holds Yba.pinned (OpenSpec.ofChange lawS4083AWaitsSpec)

/-- ITS FALSE NEIGHBOUR: 'it returns false'. Refute it at one input. -/
def lawS4083AWaitsWrong : ChangeSpec := { name := "lawS4083AWaits", fn := fun _ => fun
  | [d1, d2, d3, d4] => { results := [.lit (.bool false)], args := [d1, d2, d3, d4] }
  | _ => none }
def LawS4083AWaitsWrongFalsely : Prop := lawS4083AWaitsRow.holds Yba.pinned (OpenSpec.ofChange lawS4083AWaitsWrong)

end Rows
end Go.Proofs.Ybulkcfno

/-
  No cell of these rows narrows 'for every input' (looked for: loops, veiled, ifaces, maps, wideKeys, modest, calm, conditions, laid).
  DERIVED. THE GIVEN ROWS OF THIS SEAT. 1 by the template 'for every input the law returns true; each argument reads behind the call as it read before'; 0 by the template 'total and deterministic' (their statements: YbulkcfoqTotals.lean).
  GIVEN WITH THE SEED: the statements are not yours to turn. If you find one false, say at which input.
  Laid BY PROGRAM, IN A SANDBOX (cutbox-rows.mjs): the forced cells as the released guide's own fill.sh prints them over the translation 22c4e663d1e90993… (all of the seat's roots in one cut). By AI agents, Wed Nov 11 2026. No macro, syntax, notation, axiom, sorry.
-/
import Derived.Test.YbulkcfoqChecked
import GoSem.Claim
import GoSem.ClaimJoined
import GoSem.ClaimMapViews
import Derived.JoinedTies
import Derived.KernelRfl
namespace Go.Proofs.Ybulkcfoq
/- THE CELL 'sum', in the pinned program and in every row, IS THE sha256 OF THE DUMP (.gsa) THAT YbulkcfoqProg.lean LOADS. Nothing in Lean hashes anything: it is a label: what it is worth is what the hold of that sum in a sandbox is worth. -/
noncomputable def Yba.pinned : Pinned := { name := "ybulkcfoq", sum := "22c4e663d1e90993f183f4077a86213a65fd361197f47acc9aa494e1f7c43917", checked := Yba.checked }
namespace Rows
def none {H : Type} : Left H := { results := [], args := [] }

/-- 'source.LawS4085AModel': WHATEVER THE INPUT: true; the input reads as it did. -/
def lawS4085AModelSpec : ChangeSpec := { name := "lawS4085AModel", fn := fun _ => fun
  | [d] => { results := [.lit (.bool true)], args := [d] }
  | _ => none }
def lawS4085AModelRow : OpenClaim := { program := "ybulkcfoq", sum := "22c4e663d1e90993f183f4077a86213a65fd361197f47acc9aa494e1f7c43917", func := "example.com/chunk-tangle/chunk-tangle/pkg/source.LawS4085AModel", spec := "lawS4085AModel", apart := false }
def LawS4085AModelSaid : Prop := lawS4085AModelRow.holds Yba.pinned (OpenSpec.ofChange lawS4085AModelSpec)

/-- ITS FALSE NEIGHBOUR: 'it returns false'. Refute it at one input. -/
def lawS4085AModelWrong : ChangeSpec := { name := "lawS4085AModel", fn := fun _ => fun
  | [d] => { results := [.lit (.bool false)], args := [d] }
  | _ => none }
def LawS4085AModelWrongFalsely : Prop := lawS4085AModelRow.holds Yba.pinned (OpenSpec.ofChange lawS4085AModelWrong)

end Rows
end Go.Proofs.Ybulkcfoq

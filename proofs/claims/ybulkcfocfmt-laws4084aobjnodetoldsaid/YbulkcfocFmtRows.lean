/-
  No cell of these rows narrows 'for every input' (looked for: loops, veiled, ifaces, maps, wideKeys, modest, calm, conditions, laid).
  DERIVED. THE GIVEN ROWS OF THIS SEAT. 2 by the template 'for every input the law returns true; each argument reads behind the call as it read before'; 0 by the template 'total and deterministic' (their statements: YbulkcfocFmtTotals.lean).
  GIVEN WITH THE SEED: the statements are not yours to turn. If you find one false, say at which input.
  Laid BY PROGRAM, IN A SANDBOX (cutbox-rows.mjs): the forced cells as the released guide's own fill.sh prints them over the translation 3eeb04585cfce3e9… (all of the seat's roots in one cut). By AI agents, Wed Nov 11 2026. No macro, syntax, notation, axiom, sorry.
-/
import Derived.Test.YbulkcfocFmtChecked
import GoSem.Claim
import GoSem.ClaimJoined
import GoSem.ClaimMapViews
import Derived.JoinedTies
import Derived.KernelRfl
namespace Go.Proofs.YbulkcfocFmt
/- THE CELL 'sum', in the pinned program and in every row, IS THE sha256 OF THE DUMP (.gsa) THAT YbulkcfocFmtProg.lean LOADS. Nothing in Lean hashes anything: it is a label: what it is worth is what the hold of that sum in a sandbox is worth. -/
noncomputable def Ybaf.pinned : Pinned := { name := "ybulkcfocfmt", sum := "3eeb04585cfce3e9ad0131ac917b4958d7fbf9a1a4eeec0a6e63aa9eb1fd09be", checked := Ybaf.checked }
namespace Rows
def none {H : Type} : Left H := { results := [], args := [] }

/-- 'hocon.LawS4084AModel': WHATEVER THE INPUT: true; the input reads as it did. -/
def lawS4084AModelSpec : ChangeSpec := { name := "lawS4084AModel", fn := fun _ => fun
  | [d1, d2, d3] => { results := [.lit (.bool true)], args := [d1, d2, d3] }
  | _ => none }
def lawS4084AModelRow : OpenClaim := { program := "ybulkcfocfmt", sum := "3eeb04585cfce3e9ad0131ac917b4958d7fbf9a1a4eeec0a6e63aa9eb1fd09be", func := "example.com/gatewright/gatewright/internal/hocon.LawS4084AModel", spec := "lawS4084AModel", stops := ["fmt.Sprintf, its operands' methods called"], inPlace := ["fmt.Sprintf", "internal/abi.NoEscape"], unfollowed := true, recurses := true, apart := false }
/-- NO THEOREM (fmt's text is open here; it may be false): for the released tool's asking of the row's closed facts alone. THE STATEMENT IS 'LawS4084AModelToldSaid' (YbulkcfocFmtCards.lean). -/
def LawS4084AModelFormAsk : Prop := lawS4084AModelRow.holds Ybaf.pinned (OpenSpec.ofChange lawS4084AModelSpec)

/-- ITS FALSE NEIGHBOUR: 'it returns false'. Refute it at one input. -/
def lawS4084AModelWrong : ChangeSpec := { name := "lawS4084AModel", fn := fun _ => fun
  | [d1, d2, d3] => { results := [.lit (.bool false)], args := [d1, d2, d3] }
  | _ => none }
def LawS4084AModelWrongFormAsk : Prop := lawS4084AModelRow.holds Ybaf.pinned (OpenSpec.ofChange lawS4084AModelWrong)

/-- 'hocon.LawS4084AObjNode': WHATEVER THE INPUT: true; the input reads as it did. -/
def lawS4084AObjNodeSpec : ChangeSpec := { name := "lawS4084AObjNode", fn := fun _ => fun
  | [d1, d2, d3] => { results := [.lit (.bool true)], args := [d1, d2, d3] }
  | _ => none }
def lawS4084AObjNodeRow : OpenClaim := { program := "ybulkcfocfmt", sum := "3eeb04585cfce3e9ad0131ac917b4958d7fbf9a1a4eeec0a6e63aa9eb1fd09be", func := "example.com/gatewright/gatewright/internal/hocon.LawS4084AObjNode", spec := "lawS4084AObjNode", stops := ["fmt.Sprintf, its operands' methods called"], inPlace := ["fmt.Sprintf", "internal/abi.NoEscape"], unfollowed := true, recurses := true, apart := false }
/-- NO THEOREM (fmt's text is open here; it may be false): for the released tool's asking of the row's closed facts alone. THE STATEMENT IS 'LawS4084AObjNodeToldSaid' (YbulkcfocFmtCards.lean). -/
def LawS4084AObjNodeFormAsk : Prop := lawS4084AObjNodeRow.holds Ybaf.pinned (OpenSpec.ofChange lawS4084AObjNodeSpec)

/-- ITS FALSE NEIGHBOUR: 'it returns false'. Refute it at one input. -/
def lawS4084AObjNodeWrong : ChangeSpec := { name := "lawS4084AObjNode", fn := fun _ => fun
  | [d1, d2, d3] => { results := [.lit (.bool false)], args := [d1, d2, d3] }
  | _ => none }
def LawS4084AObjNodeWrongFormAsk : Prop := lawS4084AObjNodeRow.holds Ybaf.pinned (OpenSpec.ofChange lawS4084AObjNodeWrong)

end Rows
end Go.Proofs.YbulkcfocFmt

/-
  DERIVED. GIVEN WITH THE SEED: THE CARDS: each row of YbulkcfnoFmtRows.lean that lists a variable, with what it lists TIED to the program's text (the seventh form; the later family's looks); each row that meets fmt, with fmt's text TOLD by the authors' own Lean function (tested against real Go, not proved from fmt's source: count such statements apart). THE CARD IS WHAT COUNTS. Prove the row's statement (the work); the ties are given (YbulkcfnoFmtTie.lean); close each card by the builder's one call (the guide's Derived/Test/ToyasCard.lean, 'card_holds'). Laid BY PROGRAM, IN A SANDBOX (cutbox-door.mjs). By AI agents, Wed Nov 11 2026. No macro, syntax, notation, axiom, sorry.
-/
import Derived.Test.YbulkcfnoFmtRows
import GoSem.ClaimSeven
namespace Go.Proofs.YbulkcfnoFmt
namespace Rows

/-- THE TOLD AND TIED CARD OF 'queue.LawS4083CLookup'. -/
def lawS4083CLookupCard : Claim7 := { stood := { row := lawS4083CLookupRow, standIns := [], harness := (true, "3861e3e4ddcf1f83477df8ada49b40ce5a8118930699b55254f3ca4c42265347"), looks := true }, told := true, laidByText := true, laidKinds := [.sentinel], laidTests := true, laidLooks := .later, goes := false }
def LawS4083CLookupToldSaid : Prop := Claim7.holds Ybaf.pinned (.plain (OpenSpec.ofChange lawS4083CLookupSpec)) lawS4083CLookupCard
/-- ITS FALSE NEIGHBOUR. Refute it at one input. -/
def LawS4083CLookupToldWrongFalsely : Prop := Claim7.holds Ybaf.pinned (.plain (OpenSpec.ofChange lawS4083CLookupWrong)) lawS4083CLookupCard
end Rows
end Go.Proofs.YbulkcfnoFmt

/-
  DERIVED. GIVEN WITH THE SEED: THE CARDS: each row of YbulkcfocFmtRows.lean that lists a variable, with what it lists TIED to the program's text (the seventh form; the later family's looks); each row that meets fmt, with fmt's text TOLD by the authors' own Lean function (tested against real Go, not proved from fmt's source: count such statements apart). THE CARD IS WHAT COUNTS. Prove the row's statement (the work); the ties are given (YbulkcfocFmtTie.lean); close each card by the builder's one call (the guide's Derived/Test/ToyasCard.lean, 'card_holds'). Laid BY PROGRAM, IN A SANDBOX (cutbox-door.mjs). By AI agents, Wed Nov 11 2026. No macro, syntax, notation, axiom, sorry.
-/
import Derived.Test.YbulkcfocFmtRows
import GoSem.ClaimSeven
namespace Go.Proofs.YbulkcfocFmt
namespace Rows

/-- THE TOLD CARD OF 'hocon.LawS4084AModel'. -/
def lawS4084AModelCard : Claim7 := { stood := { row := lawS4084AModelRow, standIns := [], harness := (true, "ec0df16bf9b6cab669c3f862ee89146d3feddc736a73cc0d5fbecedb912722db"), looks := true }, told := true, goes := false }
def LawS4084AModelToldSaid : Prop := Claim7.holds Ybaf.pinned (.plain (OpenSpec.ofChange lawS4084AModelSpec)) lawS4084AModelCard
/-- ITS FALSE NEIGHBOUR. Refute it at one input. -/
def LawS4084AModelToldWrongFalsely : Prop := Claim7.holds Ybaf.pinned (.plain (OpenSpec.ofChange lawS4084AModelWrong)) lawS4084AModelCard

/-- THE TOLD CARD OF 'hocon.LawS4084AObjNode'. -/
def lawS4084AObjNodeCard : Claim7 := { stood := { row := lawS4084AObjNodeRow, standIns := [], harness := (true, "ec0df16bf9b6cab669c3f862ee89146d3feddc736a73cc0d5fbecedb912722db"), looks := true }, told := true, goes := false }
def LawS4084AObjNodeToldSaid : Prop := Claim7.holds Ybaf.pinned (.plain (OpenSpec.ofChange lawS4084AObjNodeSpec)) lawS4084AObjNodeCard
/-- ITS FALSE NEIGHBOUR. Refute it at one input. -/
def LawS4084AObjNodeToldWrongFalsely : Prop := Claim7.holds Ybaf.pinned (.plain (OpenSpec.ofChange lawS4084AObjNodeWrong)) lawS4084AObjNodeCard
end Rows
end Go.Proofs.YbulkcfocFmt

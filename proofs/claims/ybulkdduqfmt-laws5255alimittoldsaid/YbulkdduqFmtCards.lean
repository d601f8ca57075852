/-
  DERIVED. GIVEN WITH THE SEED: THE CARDS: each row of YbulkdduqFmtRows.lean that lists a variable, with what it lists TIED to the program's text (the seventh form; the later family's looks); each row that meets fmt, with fmt's text TOLD by the authors' own Lean function (tested against real Go, not proved from fmt's source: count such statements apart). THE CARD IS WHAT COUNTS. Prove the row's statement (the work); the ties are given (YbulkdduqFmtTie.lean); close each card by the builder's one call (the guide's Derived/Test/ToyasCard.lean, 'card_holds'). Laid BY PROGRAM, IN A SANDBOX (cutbox-door.mjs). By AI agents, Wed Nov 11 2026. No macro, syntax, notation, axiom, sorry.
-/
import Derived.Test.YbulkdduqFmtRows
import GoSem.ClaimSeven
namespace Go.Proofs.YbulkdduqFmt
namespace Rows

/-- THE TOLD CARD OF 'envelope.LawS5255AModel'. -/
def lawS5255AModelCard : Claim7 := { stood := { row := lawS5255AModelRow, standIns := [], harness := (true, "810ec34c504ed0a106ece7a7ac545cc27cc2fb07d71cdf158fd478a4b6eb7c2f"), looks := false }, told := true, goes := false }
def LawS5255AModelToldSaid : Prop := Claim7.holds Ybaf.pinned (.plain (OpenSpec.ofChange lawS5255AModelSpec)) lawS5255AModelCard
/-- ITS FALSE NEIGHBOUR. Refute it at one input. -/
def LawS5255AModelToldWrongFalsely : Prop := Claim7.holds Ybaf.pinned (.plain (OpenSpec.ofChange lawS5255AModelWrong)) lawS5255AModelCard

/-- THE TOLD CARD OF 'envelope.LawS5255ALimit'. -/
def lawS5255ALimitCard : Claim7 := { stood := { row := lawS5255ALimitRow, standIns := [], harness := (true, "810ec34c504ed0a106ece7a7ac545cc27cc2fb07d71cdf158fd478a4b6eb7c2f"), looks := false }, told := true, goes := false }
def LawS5255ALimitToldSaid : Prop := Claim7.holds Ybaf.pinned (.plain (OpenSpec.ofChange lawS5255ALimitSpec)) lawS5255ALimitCard
/-- ITS FALSE NEIGHBOUR. Refute it at one input. -/
def LawS5255ALimitToldWrongFalsely : Prop := Claim7.holds Ybaf.pinned (.plain (OpenSpec.ofChange lawS5255ALimitWrong)) lawS5255ALimitCard
end Rows
end Go.Proofs.YbulkdduqFmt

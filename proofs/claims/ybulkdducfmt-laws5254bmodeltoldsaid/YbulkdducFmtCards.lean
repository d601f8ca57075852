/-
  DERIVED. GIVEN WITH THE SEED: THE CARDS: each row of YbulkdducFmtRows.lean that lists a variable, with what it lists TIED to the program's text (the seventh form; the later family's looks); each row that meets fmt, with fmt's text TOLD by the authors' own Lean function (tested against real Go, not proved from fmt's source: count such statements apart). THE CARD IS WHAT COUNTS. Prove the row's statement (the work); the ties are given (YbulkdducFmtTie.lean); close each card by the builder's one call (the guide's Derived/Test/ToyasCard.lean, 'card_holds'). Laid BY PROGRAM, IN A SANDBOX (cutbox-door.mjs). By AI agents, Wed Nov 11 2026. No macro, syntax, notation, axiom, sorry.
-/
import Derived.Test.YbulkdducFmtRows
import GoSem.ClaimSeven
namespace Go.Proofs.YbulkdducFmt
namespace Rows

/-- THE TOLD AND TIED CARD OF 'rollcall.LawS5254BModel'. -/
def lawS5254BModelCard : Claim7 := { stood := { row := lawS5254BModelRow, standIns := [], harness := (true, "1f15980575bacfa18640c62ba9f2a615c6adef728cc6573946141c97489aa292"), looks := true }, told := true, laidByText := true, laidKinds := [.data, .data, .data, .sentinel, .sentinel, .sentinel], laidTests := true, laidLooks := .later, goes := false }
def LawS5254BModelToldSaid : Prop := Claim7.holds Ybaf.pinned (.plain (OpenSpec.ofChange lawS5254BModelSpec)) lawS5254BModelCard
/-- ITS FALSE NEIGHBOUR. Refute it at one input. -/
def LawS5254BModelToldWrongFalsely : Prop := Claim7.holds Ybaf.pinned (.plain (OpenSpec.ofChange lawS5254BModelWrong)) lawS5254BModelCard

/-- THE TOLD AND TIED CARD OF 'rollcall.LawS5254BNamed'. -/
def lawS5254BNamedCard : Claim7 := { stood := { row := lawS5254BNamedRow, standIns := [], harness := (true, "1f15980575bacfa18640c62ba9f2a615c6adef728cc6573946141c97489aa292"), looks := true }, told := true, laidByText := true, laidKinds := [.data, .data, .data, .sentinel, .sentinel, .sentinel], laidTests := true, laidLooks := .later, goes := false }
def LawS5254BNamedToldSaid : Prop := Claim7.holds Ybaf.pinned (.plain (OpenSpec.ofChange lawS5254BNamedSpec)) lawS5254BNamedCard
/-- ITS FALSE NEIGHBOUR. Refute it at one input. -/
def LawS5254BNamedToldWrongFalsely : Prop := Claim7.holds Ybaf.pinned (.plain (OpenSpec.ofChange lawS5254BNamedWrong)) lawS5254BNamedCard

/-- THE TOLD AND TIED CARD OF 'rollcall.LawS5254CModel'. -/
def lawS5254CModelCard : Claim7 := { stood := { row := lawS5254CModelRow, standIns := [], harness := (true, "1f15980575bacfa18640c62ba9f2a615c6adef728cc6573946141c97489aa292"), looks := true }, told := true, laidByText := true, laidKinds := [.data, .data, .data, .sentinel, .sentinel, .sentinel], laidTests := true, laidLooks := .later, goes := false }
def LawS5254CModelToldSaid : Prop := Claim7.holds Ybaf.pinned (.plain (OpenSpec.ofChange lawS5254CModelSpec)) lawS5254CModelCard
/-- ITS FALSE NEIGHBOUR. Refute it at one input. -/
def LawS5254CModelToldWrongFalsely : Prop := Claim7.holds Ybaf.pinned (.plain (OpenSpec.ofChange lawS5254CModelWrong)) lawS5254CModelCard

/-- THE TOLD AND TIED CARD OF 'rollcall.LawS5254CCount'. -/
def lawS5254CCountCard : Claim7 := { stood := { row := lawS5254CCountRow, standIns := [], harness := (true, "1f15980575bacfa18640c62ba9f2a615c6adef728cc6573946141c97489aa292"), looks := true }, told := true, laidByText := true, laidKinds := [.data, .data, .data, .sentinel, .sentinel, .sentinel], laidTests := true, laidLooks := .later, goes := false }
def LawS5254CCountToldSaid : Prop := Claim7.holds Ybaf.pinned (.plain (OpenSpec.ofChange lawS5254CCountSpec)) lawS5254CCountCard
/-- ITS FALSE NEIGHBOUR. Refute it at one input. -/
def LawS5254CCountToldWrongFalsely : Prop := Claim7.holds Ybaf.pinned (.plain (OpenSpec.ofChange lawS5254CCountWrong)) lawS5254CCountCard
end Rows
end Go.Proofs.YbulkdducFmt

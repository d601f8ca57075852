/-
  No cell of these rows narrows 'for every input' (looked for: loops, veiled, ifaces, maps, wideKeys, modest, calm, conditions, laid).
  DERIVED. THE GIVEN ROWS OF THIS SEAT. 2 by the template 'for every input the law returns true; each argument reads behind the call as it read before'; 0 by the template 'total and deterministic' (their statements: YbulkdduqFmtTotals.lean).
  GIVEN WITH THE SEED: the statements are not yours to turn. If you find one false, say at which input.
  Laid BY PROGRAM, IN A SANDBOX (cutbox-rows.mjs): the forced cells as the released guide's own fill.sh prints them over the translation 2d81f8567279af3e… (all of the seat's roots in one cut). By AI agents, Wed Nov 11 2026. No macro, syntax, notation, axiom, sorry.
-/
import Derived.Test.YbulkdduqFmtChecked
import GoSem.Claim
import GoSem.ClaimJoined
import GoSem.ClaimMapViews
import Derived.JoinedTies
import Derived.KernelRfl
namespace Go.Proofs.YbulkdduqFmt
/- THE CELL 'sum', in the pinned program and in every row, IS THE sha256 OF THE DUMP (.gsa) THAT YbulkdduqFmtProg.lean LOADS. Nothing in Lean hashes anything: it is a label: what it is worth is what the hold of that sum in a sandbox is worth. -/
noncomputable def Ybaf.pinned : Pinned := { name := "ybulkdduqfmt", sum := "2d81f8567279af3e3c84c8f172fa988e3fca928becc9c6994eb0aa7cfef1366f", checked := Ybaf.checked }
namespace Rows
def none {H : Type} : Left H := { results := [], args := [] }

/-- 'envelope.LawS5255AModel': WHATEVER THE INPUT: true; the input reads as it did. -/
def lawS5255AModelSpec : ChangeSpec := { name := "lawS5255AModel", fn := fun _ => fun
  | [d1, d2, d3] => { results := [.lit (.bool true)], args := [d1, d2, d3] }
  | _ => none }
def lawS5255AModelRow : OpenClaim := { program := "ybulkdduqfmt", sum := "2d81f8567279af3e3c84c8f172fa988e3fca928becc9c6994eb0aa7cfef1366f", func := "example.com/keytally/keytally/envelope.LawS5255AModel", spec := "lawS5255AModel", stops := ["fmt.errorf"], inPlace := ["fmt.errorf"], named := ["encoding/binary.BigEndian"], apart := false }
/-- NO THEOREM (fmt's text is open here; it may be false): for the released tool's asking of the row's closed facts alone. THE STATEMENT IS 'LawS5255AModelToldSaid' (YbulkdduqFmtCards.lean). -/
def LawS5255AModelFormAsk : Prop := lawS5255AModelRow.holds Ybaf.pinned (OpenSpec.ofChange lawS5255AModelSpec)

/-- ITS FALSE NEIGHBOUR: 'it returns false'. Refute it at one input. -/
def lawS5255AModelWrong : ChangeSpec := { name := "lawS5255AModel", fn := fun _ => fun
  | [d1, d2, d3] => { results := [.lit (.bool false)], args := [d1, d2, d3] }
  | _ => none }
def LawS5255AModelWrongFormAsk : Prop := lawS5255AModelRow.holds Ybaf.pinned (OpenSpec.ofChange lawS5255AModelWrong)

/-- 'envelope.LawS5255ALimit': WHATEVER THE INPUT: true; the input reads as it did. -/
def lawS5255ALimitSpec : ChangeSpec := { name := "lawS5255ALimit", fn := fun _ => fun
  | [d1, d2] => { results := [.lit (.bool true)], args := [d1, d2] }
  | _ => none }
def lawS5255ALimitRow : OpenClaim := { program := "ybulkdduqfmt", sum := "2d81f8567279af3e3c84c8f172fa988e3fca928becc9c6994eb0aa7cfef1366f", func := "example.com/keytally/keytally/envelope.LawS5255ALimit", spec := "lawS5255ALimit", stops := ["fmt.errorf"], inPlace := ["fmt.errorf"], named := ["encoding/binary.BigEndian"], apart := false }
/-- NO THEOREM (fmt's text is open here; it may be false): for the released tool's asking of the row's closed facts alone. THE STATEMENT IS 'LawS5255ALimitToldSaid' (YbulkdduqFmtCards.lean). -/
def LawS5255ALimitFormAsk : Prop := lawS5255ALimitRow.holds Ybaf.pinned (OpenSpec.ofChange lawS5255ALimitSpec)

/-- ITS FALSE NEIGHBOUR: 'it returns false'. Refute it at one input. -/
def lawS5255ALimitWrong : ChangeSpec := { name := "lawS5255ALimit", fn := fun _ => fun
  | [d1, d2] => { results := [.lit (.bool false)], args := [d1, d2] }
  | _ => none }
def LawS5255ALimitWrongFormAsk : Prop := lawS5255ALimitRow.holds Ybaf.pinned (OpenSpec.ofChange lawS5255ALimitWrong)

end Rows
end Go.Proofs.YbulkdduqFmt

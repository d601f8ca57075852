/-
  No cell of these rows narrows 'for every input' (looked for: loops, veiled, ifaces, maps, wideKeys, modest, calm, conditions, laid).
  DERIVED. THE GIVEN ROWS OF THIS SEAT. 1 by the template 'for every input the law returns true; each argument reads behind the call as it read before'; 0 by the template 'total and deterministic' (their statements: YbulkdducTotals.lean).
  GIVEN WITH THE SEED: the statements are not yours to turn. If you find one false, say at which input.
  Laid BY PROGRAM, IN A SANDBOX (cutbox-rows.mjs): the forced cells as the released guide's own fill.sh prints them over the translation 91f31506da765450… (all of the seat's roots in one cut). By AI agents, Wed Nov 11 2026. No macro, syntax, notation, axiom, sorry.
-/
import Derived.Test.YbulkdducChecked
import GoSem.Claim
import GoSem.ClaimJoined
import GoSem.ClaimMapViews
import Derived.JoinedTies
import Derived.KernelRfl
namespace Go.Proofs.Ybulkdduc
/- THE CELL 'sum', in the pinned program and in every row, IS THE sha256 OF THE DUMP (.gsa) THAT YbulkdducProg.lean LOADS. Nothing in Lean hashes anything: it is a label: what it is worth is what the hold of that sum in a sandbox is worth. -/
noncomputable def Yba.pinned : Pinned := { name := "ybulkdduc", sum := "91f31506da765450c530b90099257fa6aa5844c4cfed34fb978e7ba5e94f6eb7", checked := Yba.checked }
namespace Rows
def none {H : Type} : Left H := { results := [], args := [] }

/-- 'rollcall.LawS5254AExact': WHATEVER THE INPUT: true; the input reads as it did. -/
def lawS5254AExactSpec : ChangeSpec := { name := "lawS5254AExact", fn := fun _ => fun
  | [d1, d2, d3, d4, d5, d6, d7, d8, d9, d10, d11] => { results := [.lit (.bool true)], args := [d1, d2, d3, d4, d5, d6, d7, d8, d9, d10, d11] }
  | _ => none }
def lawS5254AExactRow : OpenClaim := { program := "ybulkdduc", sum := "91f31506da765450c530b90099257fa6aa5844c4cfed34fb978e7ba5e94f6eb7", func := "example.com/rollcall/rollcall.LawS5254AExact", spec := "lawS5254AExact", unfollowed := true, recurses := true, plainKeys := false, apart := false }
def LawS5254AExactSaid : Prop := lawS5254AExactRow.holds Yba.pinned (OpenSpec.ofChange lawS5254AExactSpec)

/-- ITS FALSE NEIGHBOUR: 'it returns false'. Refute it at one input. -/
def lawS5254AExactWrong : ChangeSpec := { name := "lawS5254AExact", fn := fun _ => fun
  | [d1, d2, d3, d4, d5, d6, d7, d8, d9, d10, d11] => { results := [.lit (.bool false)], args := [d1, d2, d3, d4, d5, d6, d7, d8, d9, d10, d11] }
  | _ => none }
def LawS5254AExactWrongFalsely : Prop := lawS5254AExactRow.holds Yba.pinned (OpenSpec.ofChange lawS5254AExactWrong)

end Rows
end Go.Proofs.Ybulkdduc

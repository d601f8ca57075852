/-
  No cell of these rows narrows 'for every input' (looked for: loops, veiled, ifaces, maps, wideKeys, modest, calm, conditions, laid).
  DERIVED. THE GIVEN ROWS OF THIS SEAT. 2 by the template 'for every input the law returns true; each argument reads behind the call as it read before'; 0 by the template 'total and deterministic' (their statements: YbulkddyyTotals.lean).
  GIVEN WITH THE SEED: the statements are not yours to turn. If you find one false, say at which input.
  Laid BY PROGRAM, IN A SANDBOX (cutbox-rows.mjs): the forced cells as the released guide's own fill.sh prints them over the translation 959135da029746e1… (all of the seat's roots in one cut). By AI agents, Wed Nov 11 2026. No macro, syntax, notation, axiom, sorry.
-/
import Derived.Test.YbulkddyyChecked
import GoSem.Claim
import GoSem.ClaimJoined
import GoSem.ClaimMapViews
import Derived.JoinedTies
import Derived.KernelRfl
namespace Go.Proofs.Ybulkddyy
/- THE CELL 'sum', in the pinned program and in every row, IS THE sha256 OF THE DUMP (.gsa) THAT YbulkddyyProg.lean LOADS. Nothing in Lean hashes anything: it is a label: what it is worth is what the hold of that sum in a sandbox is worth. -/
noncomputable def Yba.pinned : Pinned := { name := "ybulkddyy", sum := "959135da029746e1994845f871b71f7ec0357061f2c17ec2be2df9f18df99f9b", checked := Yba.checked }
namespace Rows
def none {H : Type} : Left H := { results := [], args := [] }

/-- 'pipeline.LawS5263ADrain': WHATEVER THE INPUT: true; the input reads as it did. -/
def lawS5263ADrainSpec : ChangeSpec := { name := "lawS5263ADrain", fn := fun _ => fun
  | [d] => { results := [.lit (.bool true)], args := [d] }
  | _ => none }
def lawS5263ADrainRow : OpenClaim := { program := "ybulkddyy", sum := "959135da029746e1994845f871b71f7ec0357061f2c17ec2be2df9f18df99f9b", func := "example.com/tandem/tandem/pipeline.LawS5263ADrain", spec := "lawS5263ADrain", unfollowed := true, recurses := true, apart := false }
def LawS5263ADrainSaid : Prop := lawS5263ADrainRow.holds Yba.pinned (OpenSpec.ofChange lawS5263ADrainSpec)

/-- ITS FALSE NEIGHBOUR: 'it returns false'. Refute it at one input. -/
def lawS5263ADrainWrong : ChangeSpec := { name := "lawS5263ADrain", fn := fun _ => fun
  | [d] => { results := [.lit (.bool false)], args := [d] }
  | _ => none }
def LawS5263ADrainWrongFalsely : Prop := lawS5263ADrainRow.holds Yba.pinned (OpenSpec.ofChange lawS5263ADrainWrong)

/-- 'pipeline.LawS5263ADone': WHATEVER THE INPUT: true; the input reads as it did. -/
def lawS5263ADoneSpec : ChangeSpec := { name := "lawS5263ADone", fn := fun _ => fun
  | [d1, d2] => { results := [.lit (.bool true)], args := [d1, d2] }
  | _ => none }
def lawS5263ADoneRow : OpenClaim := { program := "ybulkddyy", sum := "959135da029746e1994845f871b71f7ec0357061f2c17ec2be2df9f18df99f9b", func := "example.com/tandem/tandem/pipeline.LawS5263ADone", spec := "lawS5263ADone", unfollowed := true, recurses := true, apart := false }
def LawS5263ADoneSaid : Prop := lawS5263ADoneRow.holds Yba.pinned (OpenSpec.ofChange lawS5263ADoneSpec)

/-- ITS FALSE NEIGHBOUR: 'it returns false'. Refute it at one input. -/
def lawS5263ADoneWrong : ChangeSpec := { name := "lawS5263ADone", fn := fun _ => fun
  | [d1, d2] => { results := [.lit (.bool false)], args := [d1, d2] }
  | _ => none }
def LawS5263ADoneWrongFalsely : Prop := lawS5263ADoneRow.holds Yba.pinned (OpenSpec.ofChange lawS5263ADoneWrong)

end Rows
end Go.Proofs.Ybulkddyy

/-
  NARROWER THAN 'FOR EVERY INPUT', by the rows' own cells (each row's printed sentence says how): LawS5254BModel: ifaces, laid · LawS5254BNamed: ifaces, laid · LawS5254CModel: ifaces, laid · LawS5254CCount: ifaces, laid.
  DERIVED. THE GIVEN ROWS OF THIS SEAT. 4 by the template 'for every input the law returns true; each argument reads behind the call as it read before'; 0 by the template 'total and deterministic' (their statements: YbulkdducFmtTotals.lean).
  GIVEN WITH THE SEED: the statements are not yours to turn. If you find one false, say at which input.
  Laid BY PROGRAM, IN A SANDBOX (cutbox-rows.mjs): the forced cells as the released guide's own fill.sh prints them over the translation 1959e35432948d0c… (all of the seat's roots in one cut). By AI agents, Wed Nov 11 2026. No macro, syntax, notation, axiom, sorry.
-/
import Derived.Test.YbulkdducFmtChecked
import GoSem.Claim
import GoSem.ClaimJoined
import GoSem.ClaimMapViews
import Derived.JoinedTies
import Derived.KernelRfl
namespace Go.Proofs.YbulkdducFmt
/- THE CELL 'sum', in the pinned program and in every row, IS THE sha256 OF THE DUMP (.gsa) THAT YbulkdducFmtProg.lean LOADS. Nothing in Lean hashes anything: it is a label: what it is worth is what the hold of that sum in a sandbox is worth. -/
noncomputable def Ybaf.pinned : Pinned := { name := "ybulkdducfmt", sum := "1959e35432948d0cae7dccf1e7d3922cbdb06331862068916bafb2a931cb6b3a", checked := Ybaf.checked }
namespace Rows
def none {H : Type} : Left H := { results := [], args := [] }

/- WHAT THE LISTED PACKAGE-LEVEL VARIABLES READ AS WHEN THE CALL BEGINS. Each datum BY PROGRAM (the guide's laid-datum.mjs) off the statement by which the dump's own 'gosem.cut.vars' lays the variable. In a bare row this is a premise. The card (YbulkdducFmtCards.lean) ties it to the program's text. -/
def laid_math_bits_deBruijn32tab {H : Type} : DataW H := .agg [.lit (.int .u8 0), .lit (.int .u8 1), .lit (.int .u8 28), .lit (.int .u8 2), .lit (.int .u8 29), .lit (.int .u8 14), .lit (.int .u8 24), .lit (.int .u8 3), .lit (.int .u8 30), .lit (.int .u8 22), .lit (.int .u8 20), .lit (.int .u8 15), .lit (.int .u8 25), .lit (.int .u8 17), .lit (.int .u8 4), .lit (.int .u8 8), .lit (.int .u8 31), .lit (.int .u8 27), .lit (.int .u8 13), .lit (.int .u8 23), .lit (.int .u8 21), .lit (.int .u8 19), .lit (.int .u8 16), .lit (.int .u8 7), .lit (.int .u8 26), .lit (.int .u8 12), .lit (.int .u8 18), .lit (.int .u8 6), .lit (.int .u8 11), .lit (.int .u8 5), .lit (.int .u8 10), .lit (.int .u8 9)]
def laid_math_bits_deBruijn64tab {H : Type} : DataW H := .agg [.lit (.int .u8 0), .lit (.int .u8 1), .lit (.int .u8 56), .lit (.int .u8 2), .lit (.int .u8 57), .lit (.int .u8 49), .lit (.int .u8 28), .lit (.int .u8 3), .lit (.int .u8 61), .lit (.int .u8 58), .lit (.int .u8 42), .lit (.int .u8 50), .lit (.int .u8 38), .lit (.int .u8 29), .lit (.int .u8 17), .lit (.int .u8 4), .lit (.int .u8 62), .lit (.int .u8 47), .lit (.int .u8 59), .lit (.int .u8 36), .lit (.int .u8 45), .lit (.int .u8 43), .lit (.int .u8 51), .lit (.int .u8 22), .lit (.int .u8 53), .lit (.int .u8 39), .lit (.int .u8 33), .lit (.int .u8 30), .lit (.int .u8 24), .lit (.int .u8 18), .lit (.int .u8 12), .lit (.int .u8 5), .lit (.int .u8 63), .lit (.int .u8 55), .lit (.int .u8 48), .lit (.int .u8 27), .lit (.int .u8 60), .lit (.int .u8 41), .lit (.int .u8 37), .lit (.int .u8 16), .lit (.int .u8 46), .lit (.int .u8 35), .lit (.int .u8 44), .lit (.int .u8 21), .lit (.int .u8 52), .lit (.int .u8 32), .lit (.int .u8 23), .lit (.int .u8 11), .lit (.int .u8 54), .lit (.int .u8 26), .lit (.int .u8 40), .lit (.int .u8 15), .lit (.int .u8 34), .lit (.int .u8 20), .lit (.int .u8 31), .lit (.int .u8 10), .lit (.int .u8 25), .lit (.int .u8 14), .lit (.int .u8 19), .lit (.int .u8 9), .lit (.int .u8 13), .lit (.int .u8 8), .lit (.int .u8 7), .lit (.int .u8 6)]
def laid_internal_strconv_uint64pow10 {H : Type} : DataW H := .agg [.lit (.int .u64 1), .lit (.int .u64 10), .lit (.int .u64 100), .lit (.int .u64 1000), .lit (.int .u64 10000), .lit (.int .u64 100000), .lit (.int .u64 1000000), .lit (.int .u64 10000000), .lit (.int .u64 100000000), .lit (.int .u64 1000000000), .lit (.int .u64 10000000000), .lit (.int .u64 100000000000), .lit (.int .u64 1000000000000), .lit (.int .u64 10000000000000), .lit (.int .u64 100000000000000), .lit (.int .u64 1000000000000000), .lit (.int .u64 10000000000000000), .lit (.int .u64 100000000000000000), .lit (.int .u64 1000000000000000000), .lit (.int .u64 10000000000000000000)]
def laid_strconv_ErrRange {H : Type} : DataW H := .iface "*errors.errorString" (.ptr (.agg [.lit (.string [118, 97, 108, 117, 101, 32, 111, 117, 116, 32, 111, 102, 32, 114, 97, 110, 103, 101])]))
def laid_strconv_ErrSyntax {H : Type} : DataW H := .iface "*errors.errorString" (.ptr (.agg [.lit (.string [105, 110, 118, 97, 108, 105, 100, 32, 115, 121, 110, 116, 97, 120])]))
def laid_example_com_rollcall_rollcall_errForm {H : Type} : DataW H := .iface "*errors.errorString" (.ptr (.agg [.lit (.string [110, 111, 116, 32, 105, 110, 32, 116, 104, 101, 32, 105, 110, 115, 116, 114, 117, 99, 116, 105, 111, 110, 39, 115, 32, 102, 111, 114, 109])]))

/-- 'rollcall.LawS5254BModel': WHATEVER THE INPUT: true; the input reads as it did. -/
def lawS5254BModelSpec : ChangeSpec := { name := "lawS5254BModel", vars := ["example.com/rollcall/rollcall.errForm"], fn := fun _ => fun
  | [d1, d2, g1] => { results := [.lit (.bool true)], args := [d1, d2], vars := [g1] }
  | _ => none }
def lawS5254BModelRow : OpenClaim := { program := "ybulkdducfmt", sum := "1959e35432948d0cae7dccf1e7d3922cbdb06331862068916bafb2a931cb6b3a", func := "example.com/rollcall/rollcall.LawS5254BModel", spec := "lawS5254BModel", stops := ["fmt.errorf"], inPlace := ["fmt.errorf", "internal/reflectlite.TypeOf"], unfollowed := true, recurses := true, named := ["example.com/rollcall/rollcall.errForm", "strconv.ErrSyntax", "strconv.ErrRange", "internal/strconv.uint64pow10", "math/bits.deBruijn32tab", "math/bits.deBruijn64tab"], ifaces := true, plainKeys := false, apart := false, laid := [("math/bits.deBruijn32tab", laid_math_bits_deBruijn32tab), ("math/bits.deBruijn64tab", laid_math_bits_deBruijn64tab), ("internal/strconv.uint64pow10", laid_internal_strconv_uint64pow10), ("strconv.ErrRange", laid_strconv_ErrRange), ("strconv.ErrSyntax", laid_strconv_ErrSyntax), ("example.com/rollcall/rollcall.errForm", laid_example_com_rollcall_rollcall_errForm)] }
/-- NO THEOREM (fmt's text is open here; it may be false): for the released tool's asking of the row's closed facts alone. THE STATEMENT IS 'LawS5254BModelToldSaid' (YbulkdducFmtCards.lean). -/
def LawS5254BModelFormAsk : Prop := lawS5254BModelRow.holds Ybaf.pinned (OpenSpec.ofChange lawS5254BModelSpec)

/-- ITS FALSE NEIGHBOUR: 'it returns false'. Refute it at one input. -/
def lawS5254BModelWrong : ChangeSpec := { name := "lawS5254BModel", vars := ["example.com/rollcall/rollcall.errForm"], fn := fun _ => fun
  | [d1, d2, g1] => { results := [.lit (.bool false)], args := [d1, d2], vars := [g1] }
  | _ => none }
def LawS5254BModelWrongFormAsk : Prop := lawS5254BModelRow.holds Ybaf.pinned (OpenSpec.ofChange lawS5254BModelWrong)

/-- 'rollcall.LawS5254BNamed': WHATEVER THE INPUT: true; the input reads as it did. -/
def lawS5254BNamedSpec : ChangeSpec := { name := "lawS5254BNamed", vars := ["example.com/rollcall/rollcall.errForm"], fn := fun _ => fun
  | [d1, d2, d3, g1] => { results := [.lit (.bool true)], args := [d1, d2, d3], vars := [g1] }
  | _ => none }
def lawS5254BNamedRow : OpenClaim := { program := "ybulkdducfmt", sum := "1959e35432948d0cae7dccf1e7d3922cbdb06331862068916bafb2a931cb6b3a", func := "example.com/rollcall/rollcall.LawS5254BNamed", spec := "lawS5254BNamed", stops := ["fmt.errorf"], inPlace := ["fmt.errorf"], named := ["internal/strconv.uint64pow10", "math/bits.deBruijn32tab", "math/bits.deBruijn64tab", "example.com/rollcall/rollcall.errForm", "strconv.ErrSyntax", "strconv.ErrRange"], ifaces := true, plainKeys := false, apart := false, laid := [("math/bits.deBruijn32tab", laid_math_bits_deBruijn32tab), ("math/bits.deBruijn64tab", laid_math_bits_deBruijn64tab), ("internal/strconv.uint64pow10", laid_internal_strconv_uint64pow10), ("strconv.ErrRange", laid_strconv_ErrRange), ("strconv.ErrSyntax", laid_strconv_ErrSyntax), ("example.com/rollcall/rollcall.errForm", laid_example_com_rollcall_rollcall_errForm)] }
/-- NO THEOREM (fmt's text is open here; it may be false): for the released tool's asking of the row's closed facts alone. THE STATEMENT IS 'LawS5254BNamedToldSaid' (YbulkdducFmtCards.lean). -/
def LawS5254BNamedFormAsk : Prop := lawS5254BNamedRow.holds Ybaf.pinned (OpenSpec.ofChange lawS5254BNamedSpec)

/-- ITS FALSE NEIGHBOUR: 'it returns false'. Refute it at one input. -/
def lawS5254BNamedWrong : ChangeSpec := { name := "lawS5254BNamed", vars := ["example.com/rollcall/rollcall.errForm"], fn := fun _ => fun
  | [d1, d2, d3, g1] => { results := [.lit (.bool false)], args := [d1, d2, d3], vars := [g1] }
  | _ => none }
def LawS5254BNamedWrongFormAsk : Prop := lawS5254BNamedRow.holds Ybaf.pinned (OpenSpec.ofChange lawS5254BNamedWrong)

/-- 'rollcall.LawS5254CModel': WHATEVER THE INPUT: true; the input reads as it did. -/
def lawS5254CModelSpec : ChangeSpec := { name := "lawS5254CModel", vars := ["example.com/rollcall/rollcall.errForm"], fn := fun _ => fun
  | [d1, d2, d3, d4, g1] => { results := [.lit (.bool true)], args := [d1, d2, d3, d4], vars := [g1] }
  | _ => none }
def lawS5254CModelRow : OpenClaim := { program := "ybulkdducfmt", sum := "1959e35432948d0cae7dccf1e7d3922cbdb06331862068916bafb2a931cb6b3a", func := "example.com/rollcall/rollcall.LawS5254CModel", spec := "lawS5254CModel", stops := ["fmt.errorf"], inPlace := ["fmt.errorf"], named := ["example.com/rollcall/rollcall.errForm", "strconv.ErrSyntax", "strconv.ErrRange", "internal/strconv.uint64pow10", "math/bits.deBruijn32tab", "math/bits.deBruijn64tab"], ifaces := true, plainKeys := false, apart := false, laid := [("math/bits.deBruijn32tab", laid_math_bits_deBruijn32tab), ("math/bits.deBruijn64tab", laid_math_bits_deBruijn64tab), ("internal/strconv.uint64pow10", laid_internal_strconv_uint64pow10), ("strconv.ErrRange", laid_strconv_ErrRange), ("strconv.ErrSyntax", laid_strconv_ErrSyntax), ("example.com/rollcall/rollcall.errForm", laid_example_com_rollcall_rollcall_errForm)] }
/-- NO THEOREM (fmt's text is open here; it may be false): for the released tool's asking of the row's closed facts alone. THE STATEMENT IS 'LawS5254CModelToldSaid' (YbulkdducFmtCards.lean). -/
def LawS5254CModelFormAsk : Prop := lawS5254CModelRow.holds Ybaf.pinned (OpenSpec.ofChange lawS5254CModelSpec)

/-- ITS FALSE NEIGHBOUR: 'it returns false'. Refute it at one input. -/
def lawS5254CModelWrong : ChangeSpec := { name := "lawS5254CModel", vars := ["example.com/rollcall/rollcall.errForm"], fn := fun _ => fun
  | [d1, d2, d3, d4, g1] => { results := [.lit (.bool false)], args := [d1, d2, d3, d4], vars := [g1] }
  | _ => none }
def LawS5254CModelWrongFormAsk : Prop := lawS5254CModelRow.holds Ybaf.pinned (OpenSpec.ofChange lawS5254CModelWrong)

/-- 'rollcall.LawS5254CCount': WHATEVER THE INPUT: true; the input reads as it did. -/
def lawS5254CCountSpec : ChangeSpec := { name := "lawS5254CCount", vars := ["example.com/rollcall/rollcall.errForm"], fn := fun _ => fun
  | [d1, d2, d3, d4, d5, g1] => { results := [.lit (.bool true)], args := [d1, d2, d3, d4, d5], vars := [g1] }
  | _ => none }
def lawS5254CCountRow : OpenClaim := { program := "ybulkdducfmt", sum := "1959e35432948d0cae7dccf1e7d3922cbdb06331862068916bafb2a931cb6b3a", func := "example.com/rollcall/rollcall.LawS5254CCount", spec := "lawS5254CCount", stops := ["fmt.errorf"], inPlace := ["fmt.errorf"], named := ["example.com/rollcall/rollcall.errForm", "strconv.ErrSyntax", "strconv.ErrRange", "internal/strconv.uint64pow10", "math/bits.deBruijn32tab", "math/bits.deBruijn64tab"], ifaces := true, plainKeys := false, apart := false, laid := [("math/bits.deBruijn32tab", laid_math_bits_deBruijn32tab), ("math/bits.deBruijn64tab", laid_math_bits_deBruijn64tab), ("internal/strconv.uint64pow10", laid_internal_strconv_uint64pow10), ("strconv.ErrRange", laid_strconv_ErrRange), ("strconv.ErrSyntax", laid_strconv_ErrSyntax), ("example.com/rollcall/rollcall.errForm", laid_example_com_rollcall_rollcall_errForm)] }
/-- NO THEOREM (fmt's text is open here; it may be false): for the released tool's asking of the row's closed facts alone. THE STATEMENT IS 'LawS5254CCountToldSaid' (YbulkdducFmtCards.lean). -/
def LawS5254CCountFormAsk : Prop := lawS5254CCountRow.holds Ybaf.pinned (OpenSpec.ofChange lawS5254CCountSpec)

/-- ITS FALSE NEIGHBOUR: 'it returns false'. Refute it at one input. -/
def lawS5254CCountWrong : ChangeSpec := { name := "lawS5254CCount", vars := ["example.com/rollcall/rollcall.errForm"], fn := fun _ => fun
  | [d1, d2, d3, d4, d5, g1] => { results := [.lit (.bool false)], args := [d1, d2, d3, d4, d5], vars := [g1] }
  | _ => none }
def LawS5254CCountWrongFormAsk : Prop := lawS5254CCountRow.holds Ybaf.pinned (OpenSpec.ofChange lawS5254CCountWrong)

end Rows
end Go.Proofs.YbulkdducFmt

import Derived.Test.YbulkdducFmtProg
import Derived.Test.YbulkdducFmtFacts
import Derived.WalkKit
import Derived.LaidEql
import Derived.Stop.Asserts
import Derived.RowKitTokens
namespace Go.Proofs.YbulkdducFmt
open Go.RowKit Go.Extern.Stop Go.Stop Go.Extern

-- errors.Is at the sentinel itself, turned to this program
theorem isTypeOf (v : Value) (w : World) : (Extern.ReflectliteType.typeOf #[.iface 82 v]).run Ybaf.prog w = .ok (.iface 70 (.agg #[.pointer (some ⟨6, 82, none⟩)])) w := by kernel_rfl
theorem isComparable (w : World) : (callFunc 74 #[.agg #[.pointer (some ⟨6, 82, none⟩)]]).run Ybaf.prog w = .ok (.value (.bool true)) w := by kernel_rfl
theorem isMethodComparable (v : Value) (w : World) : (Go.method 259 70 v "Comparable").run Ybaf.prog w = .ok (74, v) w := by kernel_rfl
theorem isComp : (Ybaf.prog.info? 82).map (·.comparable) = some true := by kernel_rfl
theorem isSize : (Ybaf.prog.info? 84).map (·.size) = some 1 := by kernel_rfl

set_option maxRecDepth 100000 in
set_option maxHeartbeats 1000000 in
theorem is_same (a : Addr) (w : World) :
    Calls Ybaf.prog 8 #[.iface 82 (.pointer (some a)), .iface 82 (.pointer (some a))] w fun e w' => e = .returned (.bool true) ∧ w' = w := by
  obtain ⟨i, hi, hcmp⟩ := Option.map_eq_some_iff.1 isComp
  obtain ⟨j, hj, hjs⟩ := Option.map_eq_some_iff.1 isSize
  have h8 := @run_callFunc_extern Ybaf.prog 19 _ Extern.ReflectliteType.typeOf Ybaf.func19 (by kernel_rfl) (by kernel_rfl) (by kernel_rfl) (by kernel_rfl)
  have tT := isTypeOf
  have cT := isComparable
  have mR := isMethodComparable
  have heq := run_eql_iface_ptr_same (P := Ybaf.prog) w a Ybaf.underlying35 Ybaf.underlying82 hi hcmp hj
  go_enter Ybaf.func8, Ybaf.ntmps8
  go_wp2
  refine wp_loop_rounds 1 ?_
  rw [rounds_succ]
  go_wp2
  go_ret
  exact ⟨rfl, rfl⟩
end Go.Proofs.YbulkdducFmt

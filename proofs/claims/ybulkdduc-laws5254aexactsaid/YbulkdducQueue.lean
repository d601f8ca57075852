import Derived.Test.YbulkdducMach
import Derived.LoopN
namespace Go.Proofs.Ybulkdduc
open Go.RowKit
attribute [local go_sem ↓] Go.wp_at_zero Go.wp_at_succ

/-- A queue of one request, for member (mn, mi), in block Q. -/
structure Queue1 (w : World) (Q : Nat) (mn : ByteArray) (mi : Int) : Prop where
  q0 : w.cell? ⟨Q, 0, none⟩ = some (.int .u8 0)
  q1 : w.cell? ⟨Q, 1, none⟩ = some (.string mn)
  q2 : w.cell? ⟨Q, 2, none⟩ = some (.int .u64 0)
  q3 : w.cell? ⟨Q, 3, none⟩ = some (.int .u64 0)
  q4 : w.cell? ⟨Q, 4, none⟩ = some (.pointer none)
  q5 : w.cell? ⟨Q, 5, none⟩ = some (.int .u16 0)
  q6 : w.cell? ⟨Q, 6, none⟩ = some (.int .u64 mi)
  q7 : w.cell? ⟨Q, 7, none⟩ = some (.string ⟨#[]⟩)
  q8 : w.cell? ⟨Q, 8, none⟩ = some (.int .u64 0)
  q9 : w.cell? ⟨Q, 9, none⟩ = some (.int .u64 0)
  q10 : w.cell? ⟨Q, 10, none⟩ = some (.pointer none)
  q11 : w.cell? ⟨Q, 11, none⟩ = some (.int .u16 0)
  q12 : w.cell? ⟨Q, 12, none⟩ = some (.int .u64 0)
  q13 : w.cell? ⟨Q, 13, none⟩ = some (.bool false)
  lt : Q < w.heap.size

theorem Queue1.on {w w' : World} {Q : Nat} {mn : ByteArray} {mi : Int} (h : Queue1 w Q mn mi) (hb : Below w.heap.size w w') : Queue1 w' Q mn mi :=
  ⟨(hb.cell h.lt).trans h.q0, (hb.cell h.lt).trans h.q1, (hb.cell h.lt).trans h.q2, (hb.cell h.lt).trans h.q3, (hb.cell h.lt).trans h.q4, (hb.cell h.lt).trans h.q5, (hb.cell h.lt).trans h.q6, (hb.cell h.lt).trans h.q7, (hb.cell h.lt).trans h.q8, (hb.cell h.lt).trans h.q9, (hb.cell h.lt).trans h.q10, (hb.cell h.lt).trans h.q11, (hb.cell h.lt).trans h.q12, (hb.cell h.lt).trans h.q13, Nat.lt_of_lt_of_le h.lt hb.size⟩

set_option maxHeartbeats 1000000 in
theorem queued_none (M B k : Nat) (sn : ByteArray) (hbt tmo nb sb nh sh np sp na sa : Int) (xs : ByteArray) (xi nc sc : Int) (mn : ByteArray) (mi : Int) (w : World) (hM : Mach w M B k sn hbt tmo nb sb nh sh np sp na sa xs xi nc sc (.slice none 0 0)) :
    Calls Yba.prog 23 #[.pointer (some ⟨M, 0, none⟩), .agg #[.string mn, .int .u64 0, .int .u64 0, .pointer none, .int .u16 0, .int .u64 mi]] w fun e w' => e = .returned (.bool false) ∧ Below w.heap.size w w' := by
  have a1 := hM.f132
  have l1 := hM.lt
  have n3 : ¬ w.heap.size = M := by omega
  have n4 : ¬ M = w.heap.size := by omega
  clear hM
  go_enter Yba.func23, Yba.ntmps23
  go_wp2
  refine wp_loop_rounds 1 ?_
  rw [rounds_succ]
  go_wp2
  go_ret
  exact ⟨rfl, b1 w _⟩

set_option maxHeartbeats 1000000 in
theorem queued_one (M B k Q : Nat) (sn : ByteArray) (hbt tmo nb sb nh sh np sp na sa : Int) (xs : ByteArray) (xi nc sc : Int) (mn : ByteArray) (mi : Int) (w : World) (hM : Mach w M B k sn hbt tmo nb sb nh sh np sp na sa xs xi nc sc (.slice (some ⟨Q, 0, none⟩) 1 1)) (hQ : Queue1 w Q mn mi) :
    Calls Yba.prog 23 #[.pointer (some ⟨M, 0, none⟩), .agg #[.string mn, .int .u64 0, .int .u64 0, .pointer none, .int .u16 0, .int .u64 mi]] w fun e w' => e = .returned (.bool true) ∧ Below w.heap.size w w' := by
  have a1 := hM.f132
  have l1 := hM.lt
  obtain ⟨q0, q1, q2, q3, q4, q5, q6, q7, q8, q9, q10, q11, q12, q13, ql⟩ := hQ
  have n3 : ¬ w.heap.size = M := by omega
  have n4 : ¬ M = w.heap.size := by omega
  have n5 : ¬ w.heap.size = Q := by omega
  have n6 : ¬ Q = w.heap.size := by omega
  have hpe := ptr_eq 9995
  clear hM
  go_enter Yba.func23, Yba.ntmps23
  go_wp2
  refine wp_loop_rounds 1 ?_
  rw [rounds_succ]
  go_wp2
  go_ret
  exact ⟨rfl, b2 w _ _⟩
end Go.Proofs.Ybulkdduc

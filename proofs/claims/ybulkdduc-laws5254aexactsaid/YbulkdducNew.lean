import Derived.Test.YbulkdducMake
namespace Go.Proofs.Ybulkdduc
open Go.RowKit

/-- A machine as newMachine lays it. -/
structure NewM (w : World) (M : Nat) (sn : ByteArray) (hbt tmo : Int) : Prop where
  z0 : w.cell? ⟨M, 0, none⟩ = some (.string sn)
  z7 : w.cell? ⟨M, 7, none⟩ = some (.int .i64 hbt)
  z8 : w.cell? ⟨M, 8, none⟩ = some (.int .i64 tmo)
  z10 : w.cell? ⟨M, 10, none⟩ = some (.int .u64 0)
  z11 : w.cell? ⟨M, 11, none⟩ = some (.slice none 0 0)
  z12 : w.cell? ⟨M, 12, none⟩ = some (.slice none 0 0)
  z13 : w.cell? ⟨M, 13, none⟩ = some (.int .u64 0)
  z14 : w.cell? ⟨M, 14, none⟩ = some (.slice none 0 0)
  z15 : w.cell? ⟨M, 15, none⟩ = some (.int .i64 0)
  z44 : w.cell? ⟨M, 44, none⟩ = some (.int .u64 0)
  z45 : w.cell? ⟨M, 45, none⟩ = some (.int .i64 0)
  z46 : w.cell? ⟨M, 46, none⟩ = some (.pointer none)
  z48 : w.cell? ⟨M, 48, none⟩ = some (.int .u64 0)
  z49 : w.cell? ⟨M, 49, none⟩ = some (.int .i64 0)
  z50 : w.cell? ⟨M, 50, none⟩ = some (.pointer none)
  z58 : w.cell? ⟨M, 58, none⟩ = some (.int .u64 0)
  z59 : w.cell? ⟨M, 59, none⟩ = some (.int .i64 0)
  z60 : w.cell? ⟨M, 60, none⟩ = some (.pointer none)
  z61 : w.cell? ⟨M, 61, none⟩ = some (.int .u64 0)
  z62 : w.cell? ⟨M, 62, none⟩ = some (.int .i64 0)
  z63 : w.cell? ⟨M, 63, none⟩ = some (.pointer none)
  z76 : w.cell? ⟨M, 76, none⟩ = some (.string ⟨#[]⟩)
  z77 : w.cell? ⟨M, 77, none⟩ = some (.int .u64 0)
  z78 : w.cell? ⟨M, 78, none⟩ = some (.int .u64 0)
  z79 : w.cell? ⟨M, 79, none⟩ = some (.pointer none)
  z80 : w.cell? ⟨M, 80, none⟩ = some (.int .u16 0)
  z81 : w.cell? ⟨M, 81, none⟩ = some (.int .u64 0)
  z82 : w.cell? ⟨M, 82, none⟩ = some (.int .u64 0)
  z83 : w.cell? ⟨M, 83, none⟩ = some (.int .i64 0)
  z84 : w.cell? ⟨M, 84, none⟩ = some (.pointer none)
  z132 : w.cell? ⟨M, 132, none⟩ = some (.slice none 0 0)
  z134 : w.cell? ⟨M, 134, none⟩ = some (.pointer none)
  fr : ∀ o, w.frozen? ⟨M, o, none⟩ = false
  lt : M < w.heap.size

theorem NewM.on {w w' : World} {M : Nat} {sn : ByteArray} {hbt tmo : Int} (h : NewM w M sn hbt tmo) (hb : Below w.heap.size w w') : NewM w' M sn hbt tmo :=
  ⟨(hb.cell h.lt).trans h.z0, (hb.cell h.lt).trans h.z7, (hb.cell h.lt).trans h.z8, (hb.cell h.lt).trans h.z10, (hb.cell h.lt).trans h.z11, (hb.cell h.lt).trans h.z12, (hb.cell h.lt).trans h.z13, (hb.cell h.lt).trans h.z14, (hb.cell h.lt).trans h.z15, (hb.cell h.lt).trans h.z44, (hb.cell h.lt).trans h.z45, (hb.cell h.lt).trans h.z46, (hb.cell h.lt).trans h.z48, (hb.cell h.lt).trans h.z49, (hb.cell h.lt).trans h.z50, (hb.cell h.lt).trans h.z58, (hb.cell h.lt).trans h.z59, (hb.cell h.lt).trans h.z60, (hb.cell h.lt).trans h.z61, (hb.cell h.lt).trans h.z62, (hb.cell h.lt).trans h.z63, (hb.cell h.lt).trans h.z76, (hb.cell h.lt).trans h.z77, (hb.cell h.lt).trans h.z78, (hb.cell h.lt).trans h.z79, (hb.cell h.lt).trans h.z80, (hb.cell h.lt).trans h.z81, (hb.cell h.lt).trans h.z82, (hb.cell h.lt).trans h.z83, (hb.cell h.lt).trans h.z84, (hb.cell h.lt).trans h.z132, (hb.cell h.lt).trans h.z134, fun o => (hb.frozen (p := ⟨M, o, none⟩) h.lt).trans (h.fr o), Nat.lt_of_lt_of_le h.lt hb.size⟩

def MC (sn : ByteArray) (si hbt tmo : Int) : Array Value := #[.string sn, .int .u64 0, .int .u64 0, .pointer none, .int .u16 0, .int .u64 si, .slice none 0 0, .int .i64 hbt, .int .i64 tmo, .int .u8 0, .int .u64 0, .slice none 0 0, .slice none 0 0, .int .u64 0, .slice none 0 0, .int .i64 0, .nilIface, .int .i64 0, .int .u64 0, .int .i64 0, .pointer none, .int .u64 0, .int .i64 0, .pointer none, .bool false, .int .u64 0, .slice none 0 0, .slice none 0 0, .int .u64 0, .slice none 0 0, .int .u64 0, .slice none 0 0, .slice none 0 0, .int .u64 0, .slice none 0 0, .int .u64 0, .slice none 0 0, .slice none 0 0, .int .u64 0, .slice none 0 0, .int .u64 0, .int .i64 0, .pointer none, .slice none 0 0, .int .u64 0, .int .i64 0, .pointer none, .int .u64 0, .int .u64 0, .int .i64 0, .pointer none, .int .u64 0, .int .i64 0, .pointer none, .int .u64 0, .int .i64 0, .pointer none, .int .u64 0, .int .u64 0, .int .i64 0, .pointer none, .int .u64 0, .int .i64 0, .pointer none, .string ⟨#[]⟩, .int .u64 0, .int .u64 0, .pointer none, .int .u16 0, .int .u64 0, .int .u64 0, .int .i64 0, .pointer none, .int .u64 0, .int .i64 0, .pointer none, .string ⟨#[]⟩, .int .u64 0, .int .u64 0, .pointer none, .int .u16 0, .int .u64 0, .int .u64 0, .int .i64 0, .pointer none, .int .u64 0, .int .i64 0, .pointer none, .int .u64 0, .int .i64 0, .pointer none, .int .u64 0, .int .i64 0, .pointer none, .bool false, .string ⟨#[]⟩, .int .u64 0, .int .u64 0, .pointer none, .int .u16 0, .int .u64 0, .int .u64 0, .slice none 0 0, .slice none 0 0, .int .u64 0, .slice none 0 0, .slice none 0 0, .map none, .slice none 0 0, .int .u64 0, .int .i64 0, .pointer none, .int .u64 0, .int .i64 0, .pointer none, .int .u64 0, .int .i64 0, .pointer none, .int .i64 0, .int .u64 0, .int .i64 0, .pointer none, .map none, .int .u64 0, .int .i64 0, .pointer none, .slice none 0 0, .int .u64 0, .slice none 0 0, .slice none 0 0, .int .u64 0, .slice none 0 0, .slice none 0 0, .slice none 0 0, .pointer none, .int .u64 0, .slice none 0 0, .slice none 0 0]

theorem wp_run_fact {P : Program} {o : Oper} {a : Act} {w w' : World} {v : Value} {K : Act → World → Prop} {Q : Exit → Act → World → Prop} (hrun : (execOp a.eval o).run P w = .ok (.value v) w') (h : K (a.put o.dst v) w') : o.wp P a w K Q := by
  unfold Oper.wp
  rw [hrun]
  exact h

theorem wpList_build_at {P : Program} {ops : Array Oper} {rest : List Oper} {o : Oper} {a : Act} {w : World} {Q : Exit → Act → World → Prop} (hgd : o.guard = none) (t : TypeId) (parts : Array (Nat × Operand)) (ho : o.op = .build t parts) (v : Value)
    (hrun : (Instr.build t (parts.map fun (i, x) => (i, a.eval x))).run P w = .ok v w) (h : wpList P ops Q rest (a.put o.dst v) w) : wpList P ops Q (o :: rest) a w :=
  wpList_plain hgd fun _ hK => wp_run_fact (by unfold execOp; simp only [ho, Sem.run_bind, hrun, Result.andThen_ok]; rfl) (hK _ _ h)
theorem wpList_box_at {P : Program} {ops : Array Oper} {rest : List Oper} {o : Oper} {a : Act} {w w' : World} {Q : Exit → Act → World → Prop} (hgd : o.guard = none) (t : TypeId) (x : Operand) (ho : o.op = .box t x) (v : Value)
    (hrun : (Instr.box t (a.eval x)).run P w = .ok v w') (h : wpList P ops Q rest (a.put o.dst v) w') : wpList P ops Q (o :: rest) a w :=
  wpList_plain hgd fun _ hK => wp_run_fact (by unfold execOp; simp only [ho, Sem.run_bind, hrun, Result.andThen_ok]; rfl) (hK _ _ h)
theorem box68 (sn : ByteArray) (si hbt tmo : Int) (w : World) : (Instr.box 68 (.agg (MC sn si hbt tmo))).run Yba.prog w = .ok (.pointer (some ⟨w.heap.size, 0, none⟩)) (w.alloc (.cells (MC sn si hbt tmo) 68)) := by
  kernel_rfl
theorem build68 (sn : ByteArray) (si hbt tmo : Int) (w : World) : (Instr.build 68 #[(0, .agg #[.string sn, .int .u64 0, .int .u64 0, .pointer none, .int .u16 0, .int .u64 si]), (1, .slice none 0 0), (2, .int .i64 hbt), (3, .int .i64 tmo)]).run Yba.prog w = .ok (.agg (MC sn si hbt tmo)) w := by
  kernel_rfl

set_option maxRecDepth 100000 in
set_option maxHeartbeats 1000000 in
theorem newMachine_any (sn : ByteArray) (si hbt tmo : Int) (w : World) :
    Calls Yba.prog 5 #[.agg #[.string sn, .int .u64 0, .int .u64 0, .pointer none, .int .u16 0, .int .u64 si], .slice none 0 0, .int .i64 hbt, .int .i64 tmo] w fun e w' => ∃ M : Nat, e = .returned (.pointer (some ⟨M, 0, none⟩)) ∧ NewM w' M sn hbt tmo ∧ w.heap.size ≤ M ∧ Below w.heap.size w w' := by
  go_enter Yba.func5, Yba.ntmps5
  go_wp2_with (first | (refine wpList_build_at rfl 68 #[(0, .tmp 9), (1, .tmp 10), (2, .tmp 11), (3, .tmp 12)] rfl (.agg (MC sn si hbt tmo)) ?hb1 ?_; (case hb1 => kernel_rfl)) | (refine wpList_box_at rfl 68 (.tmp 13) rfl _ (by exact box68 sn si hbt tmo _) ?_))
  go_ret
  refine ⟨w.heap.size + 1, by simp, ?_, by omega, b2 w _ _⟩
  refine ⟨?_, ?_, ?_, ?_, ?_, ?_, ?_, ?_, ?_, ?_, ?_, ?_, ?_, ?_, ?_, ?_, ?_, ?_, ?_, ?_, ?_, ?_, ?_, ?_, ?_, ?_, ?_, ?_, ?_, ?_, ?_, ?_, fun o => by go_simp, by simp⟩
  all_goals
    rw [show w.heap.size + 1 = (w.alloc (.cells #[.string sn, .int .u64 0, .int .u64 0, .pointer none, .int .u16 0, .int .u64 si] 36)).heap.size from by simp, World.cell?_alloc_new]
    rfl
end Go.Proofs.Ybulkdduc

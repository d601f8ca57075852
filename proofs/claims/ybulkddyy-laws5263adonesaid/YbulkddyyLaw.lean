import Derived.Test.YbulkddyyRecv
import Derived.LaidEql
namespace Go.Proofs.Ybulkddyy
open Go.Conc Go.RowKit
set_option linter.unusedVariables false

theorem mk0 (w : World) : (Instr.makeChan 32 (.int .i64 0)).run Yba.prog w = .ok (.chan (some w.heap.size)) (w.alloc (.chan 0 #[] false 0 0 false)) := by
  have h : (Yba.prog.info? 38).map (·.bytes) = some 0 := by kernel_rfl
  obtain ⟨i, hi, hb⟩ := Option.map_eq_some_iff.1 h
  simpa using run_makeChan (P := Yba.prog) (w := w) Yba.underlying32 hi .i64 0 (by omega) (by rw [hb]; omega)
theorem mkN (n : Nat) (hn : n ≤ 2000) (w : World) : (Instr.makeChan 23 (.int .i64 (n : Int))).run Yba.prog w = .ok (.chan (some w.heap.size)) (w.alloc (.chan n #[] false 0 0 false)) := by
  have h : (Yba.prog.info? 3).map (·.bytes) = some 8 := by kernel_rfl
  obtain ⟨i, hi, hb⟩ := Option.map_eq_some_iff.1 h
  simpa using run_makeChan (P := Yba.prog) (w := w) Yba.underlying23 hi .i64 n (by omega) (by rw [hb]; omega)

/-- The world with the closed done channel. -/
def shutD (W : World) : World := (W.alloc (.chan 0 #[] false 0 0 false)).setChan W.heap.size 0 #[] true 0 0 false
theorem shutD_size (W : World) : (shutD W).heap.size = W.heap.size + 1 := by unfold shutD; rw [size_setChan]; simp
theorem shutD_heap (W : World) : (shutD W).heap[W.heap.size]? = some (.chan 0 #[] true 0 0 false) := heap_setChan _ _ _ _ _ _ _ _ (by simp)
theorem shutD_below (W : World) : Below W.heap.size W (shutD W) := below_setChan ((Below.refl _ _).alloc (Nat.le_refl _) _) (Nat.le_refl _) _ _ _ _ _ _
theorem closeD (W : World) : (Builtin.close_ #[32] 0 #[.chan (some W.heap.size)]).run Yba.prog (W.alloc (.chan 0 #[] false 0 0 false)) = .ok (.tuple #[]) (shutD W) :=
  run_close_open (P := Yba.prog) (w := W.alloc (.chan 0 #[] false 0 0 false)) #[32] 0 (heap_alloc_new W _)

def zz : ByteArray := ⟨#[122, 122, 32, 115, 116, 111, 112]⟩
abbrev errV (W : World) : Value := .iface 47 (.pointer (some ⟨W.heap.size + 1, 0, none⟩))
/-- The world with the context stand-in. -/
def ctxW (W : World) : World := ((shutD W).alloc (.cells #[.string zz] 49)).alloc (.cells #[.chan (some W.heap.size), errV W, .int .i64 0, .int .i64 0] 36)
theorem ctxW_size (W : World) : (ctxW W).heap.size = W.heap.size + 3 := by unfold ctxW; simp [shutD_size]
theorem ctxW_below (W : World) : Below W.heap.size W (ctxW W) := ((shutD_below W).alloc (by rw [shutD_size]; omega) _).alloc (by simp [shutD_size]; omega) _
theorem ctxW_d (W : World) : (ctxW W).heap[W.heap.size]? = some (.chan 0 #[] true 0 0 false) := by
  unfold ctxW
  rw [Below.heap_alloc _ _ _ (by simp [shutD_size]; omega), Below.heap_alloc _ _ _ (by rw [shutD_size]; omega)]
  exact shutD_heap W
theorem ctxW_ctx (W : World) : Ctx (ctxW W) (W.heap.size + 2) W.heap.size (errV W) 0 0 := by
  have hz := shutD_size W
  refine ⟨?_, ?_, ?_, ?_, fun k => ?_, ?_⟩
  all_goals unfold ctxW
  · go_simp
  · go_simp
  · go_simp
  · go_simp
  · go_simp
  · simp [hz]

theorem new_walk (x : ByteArray) (w : World) : Calls Yba.prog 7 #[.string x] w fun e w' => e = .returned (.iface 47 (.pointer (some ⟨w.heap.size, 0, none⟩))) ∧ w' = w.alloc (.cells #[.string x] 49) := by
  go_enter Yba.func7, Yba.ntmps7
  go_wp2
  go_ret
  exact ⟨rfl, rfl⟩

theorem new_shut (W : World) : Calls Yba.prog 7 #[.string zz] (shutD W) fun e w' => e = .returned (errV W) ∧ w' = (shutD W).alloc (.cells #[.string zz] 49) := by
  have := new_walk zz (shutD W)
  rw [shutD_size] at this
  exact this

theorem comp47 : (Yba.prog.info? 47).map (·.comparable) = some true := by kernel_rfl
theorem size49 : (Yba.prog.info? 49).map (·.size) = some 1 := by kernel_rfl
theorem eql_same (a : Addr) (w : World) : (binOp .eql 28 (.iface 47 (.pointer (some a))) (.iface 47 (.pointer (some a)))).run Yba.prog w = .ok (.bool true) w := by
  obtain ⟨i, hi, hcmp⟩ := Option.map_eq_some_iff.1 comp47
  obtain ⟨j, hj, _⟩ := Option.map_eq_some_iff.1 size49
  exact run_eql_iface_ptr_same w a Yba.underlying28 Yba.underlying47 hi hcmp hj

set_option maxRecDepth 100000 in
set_option maxHeartbeats 4000000 in
theorem mode0 (a0 : Option Addr) (len cap : Nat) (md : Int) (W : World) (hl : len ≤ 1024) (h0 : 0 ≤ md) (h1 : md ≤ 255) (hm : md % 3 = 0) :
    Calls Yba.prog 4 #[.slice a0 len cap, .int .u8 md] W fun e w' => e = .returned (.bool true) ∧ Below W.heap.size W w' := by
  have hl' : ¬ (1024 : Int) < len := by omega
  have hk := mk0
  have hcl := closeD W
  have hz := shutD_size W
  have hnew := new_shut W
  simp only [errV] at hnew
  have hcall := recv_nil (W.heap.size + 2) W.heap.size 0 0 0 (errV W) (ctxW W) (ctxW_ctx W) (ctxW_d W) (by omega)
  have hb0 := ctxW_below W
  go_enter Yba.func4, Yba.ntmps4
  go_wp2_with (first
    | (go_at_call 7; refine hnew.mono ?_; rintro e w' ⟨rfl, rfl⟩)
    | (go_at_call 6; refine hcall.mono ?_))
  rintro e w3 ⟨rfl, hC, hb⟩
  have hbW : Below W.heap.size W w3 := hb0.trans (hb.mono (by omega))
  obtain ⟨c0, c1, c2, c3, fr, hlt⟩ := hC
  have heq := eql_same ⟨W.heap.size + 1, 0, none⟩
  clear hcall hb hk hcl hnew hb0
  simp only [errV] at c1
  go_wp2_with fail
  go_ret
  exact ⟨rfl, hbW⟩
/-- The world with a channel of room n made behind. -/
def chanW (W : World) (n : Nat) : World := (ctxW W).alloc (.chan n #[] false 0 0 false)
theorem chanW_size (W : World) (n : Nat) : (chanW W n).heap.size = W.heap.size + 4 := by unfold chanW; simp [ctxW_size]
theorem chanW_below0 (W : World) (n : Nat) : Below (ctxW W).heap.size (ctxW W) (chanW W n) := (Below.refl _ _).alloc (Nat.le_refl _) _
theorem chanW_below (W : World) (n : Nat) : Below W.heap.size W (chanW W n) := (ctxW_below W).alloc (by rw [ctxW_size]; omega) _
theorem chanW_c (W : World) (n : Nat) : (chanW W n).heap[W.heap.size + 3]? = some (.chan n #[] false 0 0 false) := by
  have := heap_alloc_new (ctxW W) (.chan n #[] false 0 0 false)
  rw [ctxW_size] at this
  exact this
theorem chanW_d (W : World) (n : Nat) : (chanW W n).heap[W.heap.size]? = some (.chan 0 #[] true 0 0 false) := ((chanW_below0 W n).block _ (by rw [ctxW_size]; omega)).trans (ctxW_d W)
theorem chanW_ctx (W : World) (n : Nat) : Ctx (chanW W n) (W.heap.size + 2) W.heap.size (errV W) 0 0 := (ctxW_ctx W).on ((chanW_below0 W n).block _ (by rw [ctxW_size]; omega)) (chanW_below0 W n).size

set_option maxRecDepth 100000 in
set_option maxHeartbeats 4000000 in
theorem mode1 (a0 : Option Addr) (len cap : Nat) (md : Int) (W : World) (hl : len ≤ 1024) (h0 : 0 ≤ md) (h1 : md ≤ 255) (hm : md % 3 = 1) :
    Calls Yba.prog 4 #[.slice a0 len cap, .int .u8 md] W fun e w' => e = .returned (.bool true) ∧ Below W.heap.size W w' := by
  have hl' : ¬ (1024 : Int) < len := by omega
  have hk := mk0
  have hkn := mkN (len + 1) (by omega)
  rw [show ((len + 1 : Nat) : Int) = (len : Int) + 1 by omega] at hkn
  have hcl := closeD W
  have hz := shutD_size W
  have hnew := new_shut W
  simp only [errV] at hnew
  have hcall := recv_empty (W.heap.size + 2) W.heap.size 0 0 0 (W.heap.size + 3) (len + 1) 0 0 (errV W) (chanW W (len + 1)) (chanW_ctx W _) (chanW_d W _) (by omega) (chanW_c W _) (by omega)
  have hb0 := chanW_below W (len + 1)
  go_enter Yba.func4, Yba.ntmps4
  go_wp2_with (first
    | (go_at_call 7; refine hnew.mono ?_; rintro e w' ⟨rfl, rfl⟩)
    | (go_at_call 6; refine hcall.mono ?_))
  rintro e w3 ⟨rfl, hC, hch, hb⟩
  have hbW : Below W.heap.size W w3 := hb0.trans (hb.mono (by omega))
  obtain ⟨c0, c1, c2, c3, fr, hlt⟩ := hC
  have heq := eql_same ⟨W.heap.size + 1, 0, none⟩
  have hlen := fun ty => run_len_chan (P := Yba.prog) (w := w3) 23 ty Yba.underlying23 hch
  clear hcall hb hk hcl hnew hb0 hkn
  simp only [errV] at c1
  go_wp2_with fail
  go_ret
  exact ⟨rfl, hbW⟩
end Go.Proofs.Ybulkddyy

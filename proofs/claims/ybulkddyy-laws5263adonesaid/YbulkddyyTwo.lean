import Derived.Test.YbulkddyyLaw
namespace Go.Proofs.Ybulkddyy
open Go.Conc Go.RowKit
set_option linter.unusedVariables false

/-- What lies in the buffer behind j sends. -/
def bufJ (zs : List Int) (j : Nat) : Array Value := ((zs.take j).map (Value.int .i64)).toArray
theorem bufJ_size (zs : List Int) (j : Nat) (h : j ≤ zs.length) : (bufJ zs j).size = j := by simp [bufJ, h]
theorem bufJ_push (zs : List Int) (j : Nat) (h : j < zs.length) : (bufJ zs j).push (.int .i64 (zs.getD j 0)) = bufJ zs (j + 1) := by
  unfold bufJ
  rw [List.take_add_one, List.getElem?_eq_getElem h, List.map_append]
  simp only [List.push_toArray]
  simp [List.getD, h]

/-- What holds in the loop of sends. -/
def SRel (W : World) (len : Nat) (zs : List Int) (i : Value) (wr : World) : Prop := ∃ j : Nat, j ≤ len ∧ i = .int .i64 j ∧ wr.heap[W.heap.size + 3]? = some (.chan len (bufJ zs j) false j 0 false) ∧ (∀ k, k ≠ W.heap.size + 3 → wr.heap[k]? = (chanW W len).heap[k]?) ∧ wr.heap.size = W.heap.size + 4 ∧ Below W.heap.size W wr

set_option maxRecDepth 100000 in
set_option maxHeartbeats 4000000 in
theorem mode2 (a0 : Option Addr) (len cap : Nat) (zs : List Int) (md : Int) (W : World) (hl : len ≤ 1024) (h0 : 0 ≤ md) (h1 : md ≤ 255) (hm : md % 3 = 2) (hzs : zs.length = len)
    (hcell : ∀ j, j < len → ∃ x, a0 = some x ∧ W.cell? (x.add j) = some (.int .i64 (zs.getD j 0))) :
    Calls Yba.prog 4 #[.slice a0 len cap, .int .u8 md] W fun e w' => e = .returned (.bool true) ∧ Below W.heap.size W w' := by
  have hl' : ¬ (1024 : Int) < len := by omega
  have hk := mk0
  have hkn := mkN len (by omega)
  have hcl := closeD W
  have hz := shutD_size W
  have hnew := new_shut W
  simp only [errV] at hnew
  have hcW : chanW W len = (((shutD W).alloc (.cells #[.string zz] 49)).alloc (.cells #[.chan (some W.heap.size), .iface 47 (.pointer (some ⟨W.heap.size + 1, 0, none⟩)), .int .i64 0, .int .i64 0] 36)).alloc (.chan len #[] false 0 0 false) := rfl
  go_enter Yba.func4, Yba.ntmps4
  go_wp2_with (first
    | (go_at_call 7; refine hnew.mono ?_; rintro e w' ⟨rfl, rfl⟩))
  rw [← hcW]
  try rw [hm]
  clear hk hkn hcl hnew hcW
  go_loopw [17] (fun i wr => SRel W len zs i wr) (fun i _ => len - (intOf i).toNat)
  case atStart => exact ⟨0, by omega, rfl, chanW_c W len, fun _ _ => rfl, chanW_size W len, chanW_below W len⟩
  case round =>
    obtain ⟨j, hj, rfl, hch, hoth, hsz, hbW⟩ := hrel
    rcases Nat.lt_or_ge j len with hlt | hge
    · have hlt' : (j : Int) < len := by omega
      obtain ⟨x, hax, hx⟩ := hcell j hlt
      subst hax
      have hpush := bufJ_push zs j (by omega)
      obtain ⟨zj, hzj⟩ : ∃ zj, zj = zs.getD j 0 := ⟨_, rfl⟩
      rw [← hzj] at hx hpush
      clear hzj
      have hx1 := (hbW.cell (block_lt_of_cell hx)).trans hx
      have hch2 : wr.heap[W.heap.size + 1 + 1 + 1]? = some (.chan len (bufJ zs j) false j 0 false) := hch
      go_upto_region 12 with (fail)
      refine wp_of_lone fun b k cs => ?_
      refine LoneTo.goes (n := 1) ?_
      s_reg
      s_stop
      refine lone_op rfl rfl (fun K' hK' => ?_); go_simp; refine hK' _ _ ?_; clear hK' K'
      refine lone_op rfl rfl (fun K' hK' => ?_); go_simp; refine hK' _ _ ?_; clear hK' K'
      refine lone_op rfl rfl (fun K' hK' => ?_); go_simp; refine hK' _ _ ?_; clear hK' K'
      refine lone_op rfl rfl (fun K' hK' => ?_); go_simp; refine hK' _ _ ?_; clear hK' K'
      refine lone_op rfl rfl (fun K' hK' => ?_); go_simp; refine hK' _ _ ?_; clear hK' K'
      refine lone_send (c := W.heap.size + 1 + 1 + 1) (v := .int .i64 zj) (z := .tuple #[]) (cap := len) (buf := bufJ zs j) (s := j) (r := 0) (tm := false) (w' := wr) rfl rfl (by simp [go_sem, execOp, scase, Act.eval]) hch2 (by rw [bufJ_size zs j (by omega)]; omega) (fun _ => ?_)
      rw [Frame.finish_at, hpush]
      walk_nrm
      refine LoneTo.goes (n := 1) ?_
      s_c stepG_region_end
      s_stop
      refine LoneTo.done ⟨_, rfl, ?_⟩
      have hN : SRel W len zs (.int .i64 ((j : Int) + 1)) (wr.setChan (W.heap.size + 1 + 1 + 1) len (bufJ zs (j + 1)) false (j + 1) 0 false) := by
        refine ⟨j + 1, by omega, rfl, heap_setChan _ _ _ _ _ _ _ _ (by omega), fun k hk => ?_, by rw [size_setChan]; exact hsz, below_setChan hbW (by omega) _ _ _ _ _ _⟩
        rw [setChan_other _ _ _ _ _ _ _ _ _ (fun e => hk e.symm)]
        exact hoth k hk
      clear hch hch2 hoth hx hx1 hpush hcell
      generalize wr.setChan (W.heap.size + 1 + 1 + 1) len (bufJ zs (j + 1)) false (j + 1) 0 false = wN at *
      go_wp2_with (fail)
      exact ⟨hN, by simp [intOf]; omega⟩
    · obtain rfl : j = len := by omega
      have hlt' : ¬ (j : Int) < j := by omega
      have hC0 : Ctx wr (W.heap.size + 2) W.heap.size (errV W) 0 0 := (chanW_ctx W j).on (hoth _ (by omega)) (by rw [hsz, chanW_size]; exact Nat.le_refl _)
      have hd0 : wr.heap[W.heap.size]? = some (.chan 0 #[] true 0 0 false) := (hoth _ (by omega)).trans (chanW_d W j)
      have hcl2 : (Builtin.close_ #[23] 0 #[.chan (some (W.heap.size + 1 + 1 + 1))]).run Yba.prog wr = .ok (.tuple #[]) (wr.setChan (W.heap.size + 3) j (bufJ zs j) true j 0 false) := run_close_open (P := Yba.prog) (w := wr) #[23] 0 hch
      have hCs : Ctx (wr.setChan (W.heap.size + 3) j (bufJ zs j) true j 0 false) (W.heap.size + 2) W.heap.size (errV W) 0 0 := hC0.on (setChan_other _ _ _ _ _ _ _ _ _ (by omega)) (by rw [size_setChan]; exact Nat.le_refl _)
      have hds : (wr.setChan (W.heap.size + 3) j (bufJ zs j) true j 0 false).heap[W.heap.size]? = some (.chan 0 #[] true 0 0 false) := (setChan_other _ _ _ _ _ _ _ _ _ (by omega)).trans hd0
      have hcs : (wr.setChan (W.heap.size + 3) j (bufJ zs j) true j 0 false).heap[W.heap.size + 3]? = some (.chan j (bufJ zs j) true j 0 false) := heap_setChan _ _ _ _ _ _ _ _ (by omega)
      have hbs : Below W.heap.size W (wr.setChan (W.heap.size + 3) j (bufJ zs j) true j 0 false) := below_setChan hbW (by omega) _ _ _ _ _ _
      have hzs2 : (wr.setChan (W.heap.size + 3) j (bufJ zs j) true j 0 false).heap.size = W.heap.size + 4 := by rw [size_setChan]; exact hsz
      have hbsz := bufJ_size zs j (by omega)
      generalize wr.setChan (W.heap.size + 3) j (bufJ zs j) true j 0 false = wS at *
      have hcall := recv_two (W.heap.size + 2) W.heap.size 0 0 0 (W.heap.size + 3) j j 0 (bufJ zs j) (errV W) wS hCs hds (by omega) hcs (by omega) (by omega)
      clear hC0 hd0 hCs hds hcs hch hoth hbW
      go_wp2_with (first
        | (go_at_call 6; refine hcall.mono ?_))
      rintro e w4 ⟨hE, hb4⟩
      have hbF : Below W.heap.size W w4 := hbs.trans (hb4.mono (by omega))
      clear hcall hb4 hcl2 hbs
      have heq := eql_same ⟨W.heap.size + 1, 0, none⟩
      rcases hE with ⟨rfl, hC, hcc⟩ | ⟨hpos, rfl, hC, hcc⟩ | ⟨hnil, rfl, hC, hcc⟩
      · obtain ⟨c0, c1, c2, c3, fr, hltC⟩ := hC
        have hlen := fun ty => run_len_chan (P := Yba.prog) (w := w4) 23 ty Yba.underlying23 hcc
        rw [hbsz] at hlen
        simp only [errV] at c1
        go_wp2_with fail
        go_ret
        exact ⟨rfl, hbF⟩
      · obtain ⟨c0, c1, c2, c3, fr, hltC⟩ := hC
        have hjp : 0 < j := by omega
        have hj0 : ¬ (j : Int) = 0 := by omega
        obtain ⟨x, hax, hx⟩ := hcell 0 hjp
        subst hax
        have hx4 := (hbF.cell (block_lt_of_cell hx)).trans hx
        have hx5 : w4.cell? x = some (.int .i64 (zs.getD 0 0)) := hx4
        have hv : (bufJ zs j).getD 0 undef = .int .i64 (zs.getD 0 0) := by
          have h0l : 0 < zs.length := by omega
          simp [bufJ, Array.getD, List.getD, h0l]
          rw [dif_pos (by omega)]
        rw [hv]
        have hlen := fun ty => run_len_chan (P := Yba.prog) (w := w4) 23 ty Yba.underlying23 hcc
        have hes : ((bufJ zs j).extract 1 (bufJ zs j).size).size = j - 1 := by simp [hbsz]
        rw [hes] at hlen
        have hgi : goInt (j - 1 : Nat) = .int .i64 ((j : Int) - 1) := by
          show Value.int .i64 ((j - 1 : Nat) : Int) = _
          congr 1
          omega
        rw [hgi] at hlen
        obtain ⟨z0, hz0⟩ : ∃ z0, z0 = zs.getD 0 0 := ⟨_, rfl⟩
        rw [← hz0] at hx5 ⊢
        clear hx hx4 hv hcell hz0 hcc hes hgi
        simp only [errV] at c1
        go_wp2_with fail
        go_ret
        exact ⟨rfl, hbF⟩
      · obtain ⟨c0, c1, c2, c3, fr, hltC⟩ := hC
        have hj0 : j = 0 := by omega
        have hj0' : (j : Int) = 0 := by omega
        simp only [errV] at c1
        clear hcell hcc
        go_wp2_with fail
        go_ret
        exact ⟨rfl, hbF⟩
set_option maxRecDepth 100000 in
set_option maxHeartbeats 2000000 in
theorem large (a0 : Option Addr) (len cap : Nat) (md : Int) (W : World) (hl : 1024 < len) :
    Calls Yba.prog 4 #[.slice a0 len cap, .int .u8 md] W fun e w' => e = .returned (.bool true) ∧ Below W.heap.size W w' := by
  have hl' : (1024 : Int) < len := by omega
  go_enter Yba.func4, Yba.ntmps4
  go_wp2_with fail
  go_ret
  exact ⟨rfl, Below.refl _ _⟩

end Go.Proofs.Ybulkddyy

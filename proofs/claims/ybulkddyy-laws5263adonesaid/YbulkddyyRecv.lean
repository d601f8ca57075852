import Derived.Test.YbulkddyySel
import Derived.Conc.LoneSelect
import Derived.WalkKit
import Derived.ProofKit
import Derived.Deep.DeepCutAuto
import Derived.Below
namespace Go.Proofs.Ybulkddyy
open Go.Conc Go.RowKit
set_option linter.unusedVariables false

/-- The context stand-in at block C. -/
structure Ctx (w : World) (C d : Nat) (e : Value) (nd ne : Int) : Prop where
  c0 : w.cell? ⟨C, 0, none⟩ = some (.chan (some d))
  c1 : w.cell? ⟨C, 1, none⟩ = some e
  c2 : w.cell? ⟨C, 2, none⟩ = some (.int .i64 nd)
  c3 : w.cell? ⟨C, 3, none⟩ = some (.int .i64 ne)
  fr : ∀ k, w.frozen? ⟨C, k, none⟩ = false
  lt : C < w.heap.size

theorem methodDone (v : Value) (w : World) : (Go.method 182 34 v "Done").run Yba.prog w = .ok (24, v) w := by kernel_rfl
theorem methodErr (v : Value) (w : World) : (Go.method 182 34 v "Err").run Yba.prog w = .ok (25, v) w := by kernel_rfl

theorem Ctx.on {w w' : World} {C d : Nat} {e : Value} {nd ne : Int} (h : Ctx w C d e nd ne) (hb : w'.heap[C]? = w.heap[C]?) (hs : w.heap.size ≤ w'.heap.size) : Ctx w' C d e nd ne :=
  ⟨(World.cell?_of_block hb).trans h.c0, (World.cell?_of_block hb).trans h.c1, (World.cell?_of_block hb).trans h.c2, (World.cell?_of_block hb).trans h.c3, fun k => (World.frozen?_of_block hb).trans (h.fr k), Nat.lt_of_lt_of_le h.lt hs⟩

theorem Ctx.setDone {w : World} {C d : Nat} {e : Value} {nd ne : Int} (h : Ctx w C d e nd ne) (x : Int) : Ctx (w.setCell ⟨C, 2, none⟩ (.int .i64 x)) C d e x ne := by
  obtain ⟨c0, c1, c2, c3, fr, hlt⟩ := h
  refine ⟨?_, ?_, ?_, ?_, fun k => ?_, ?_⟩
  · go_simp
  · go_simp
  · go_simp
  · go_simp
  · rw [World.frozen?_setCell]; exact fr k
  · simpa using hlt

theorem Ctx.setErr {w : World} {C d : Nat} {e : Value} {nd ne : Int} (h : Ctx w C d e nd ne) (x : Int) : Ctx (w.setCell ⟨C, 3, none⟩ (.int .i64 x)) C d e nd x := by
  obtain ⟨c0, c1, c2, c3, fr, hlt⟩ := h
  refine ⟨?_, ?_, ?_, ?_, fun k => ?_, ?_⟩
  · go_simp
  · go_simp
  · go_simp
  · go_simp
  · rw [World.frozen?_setCell]; exact fr k
  · simpa using hlt

set_option maxRecDepth 100000 in
theorem done_walk (C d : Nat) (e : Value) (ne : Int) (w : World) (hC : Ctx w C d e 0 ne) :
    Calls Yba.prog 24 #[.pointer (some ⟨C, 0, none⟩)] w fun x w' => x = .returned (.chan (some d)) ∧ w' = w.setCell ⟨C, 2, none⟩ (.int .i64 1) := by
  obtain ⟨c0, c1, c2, c3, fr, hlt⟩ := hC
  go_enter Yba.func24, Yba.ntmps24
  go_wp2
  go_ret
  exact ⟨rfl, rfl⟩

set_option maxRecDepth 100000 in
theorem err_walk (C d : Nat) (e : Value) (nd : Int) (w : World) (hC : Ctx w C d e nd 0) :
    Calls Yba.prog 25 #[.pointer (some ⟨C, 0, none⟩)] w fun x w' => x = .returned e ∧ w' = w.setCell ⟨C, 3, none⟩ (.int .i64 1) := by
  obtain ⟨c0, c1, c2, c3, fr, hlt⟩ := hC
  go_enter Yba.func25, Yba.ntmps25
  go_wp2
  go_ret
  exact ⟨rfl, rfl⟩

theorem res_nil (a : Nat) (z z' v : Value) (ok : Bool) : commResult #[rcase a z, rcaseNil z'] .select ((0 : Nat) : Int) v ok = .tuple #[goInt 0, .bool ok, v, z'] := by
  simp [commResult, rcase, rcaseNil, List.zipIdx_cons]
theorem res_0 (a b : Nat) (z z' v : Value) (ok : Bool) : commResult #[rcase a z, rcase b z'] .select ((0 : Nat) : Int) v ok = .tuple #[goInt 0, .bool ok, v, z'] := by
  simp [commResult, rcase, List.zipIdx_cons]
theorem res_1 (a b : Nat) (z z' v : Value) (ok : Bool) : commResult #[rcase a z, rcase b z'] .select ((1 : Nat) : Int) v ok = .tuple #[goInt 1, .bool ok, z, v] := by
  simp [commResult, rcase, List.zipIdx_cons]

theorem sel_heap (w : World) (C d : Nat) (x : Value) (o : Nat) (h : d ≠ C) : (w.setCell ⟨C, o, none⟩ x).heap[d]? = w.heap[d]? := Below.heap_setCell w ⟨C, o, none⟩ x d h

set_option maxRecDepth 100000 in
set_option maxHeartbeats 2000000 in
theorem recv_nil (C d cap s r : Nat) (e : Value) (w : World) (hC : Ctx w C d e 0 0) (hd : w.heap[d]? = some (.chan cap #[] true s r false)) (hdC : d ≠ C) :
    Calls Yba.prog 6 #[.iface 34 (.pointer (some ⟨C, 0, none⟩)), .chan none] w fun x w' => x = .returned (.tuple #[.int .i64 0, .bool false, e]) ∧ Ctx w' C d e 1 1 ∧ Below C w w' := by
  have mD := methodDone
  have mE := methodErr
  have hcd := done_walk C d e 0 w hC
  have hC1 := hC.setDone 1
  have hd1 := (sel_heap w C d (.int .i64 1) 2 hdC).trans hd
  have hb1 : Below C w (w.setCell ⟨C, 2, none⟩ (.int .i64 1)) := (Below.refl C w).setCell (p := ⟨C, 2, none⟩) (Nat.le_refl C) _
  obtain ⟨W1, hW1⟩ : ∃ W1, W1 = w.setCell ⟨C, 2, none⟩ (.int .i64 1) := ⟨_, rfl⟩
  rw [← hW1] at hcd hC1 hd1 hb1
  clear hW1
  go_enter Yba.func6, Yba.ntmps6
  go_upto_region 3 with (go_at_call 24; refine hcd.mono ?_; rintro e w' ⟨rfl, rfl⟩)
  refine wp_of_lone fun b k cs => ?_
  refine LoneTo.goes (n := 1) ?_
  s_reg
  s_stop
  refine lone_shut (kk := 0) (c := d) (z := (.agg #[])) (cap := cap) (s := s) (r := r) (tm := false) (cases := #[rcase d (.agg #[]), rcaseNil (.int .i64 0)]) (w' := w') rfl rfl (by simp [go_sem, execOp, rcase, rcaseNil, Act.eval]) rfl (fun m c' hm hc' => ?_) hd1 ?_
  · rcases m with _ | _ | m
    · exact absurd rfl hm
    · simp only [List.getElem?_toArray, List.getElem?_cons_succ, List.getElem?_cons_zero, Option.some.injEq] at hc'
      subst hc'
      exact noWay_nil none
    · simp at hc'
  rw [Frame.finish_at, res_nil]
  walk_nrm
  refine lone_op rfl rfl (fun K' hK' => ?_); go_simp; refine hK' _ _ ?_; clear hK' K'
  refine lone_op rfl rfl (fun K' hK' => ?_); go_simp; refine hK' _ _ ?_; clear hK' K'
  refine lone_op rfl rfl (fun K' hK' => ?_); go_simp; refine hK' _ _ ?_; clear hK' K'
  refine LoneTo.goes (n := 1) ?_
  s_c stepG_region_end
  s_stop
  refine LoneTo.done ⟨_, rfl, ?_⟩
  have hce := err_walk C d e 1 w' hC1
  have hC2 := hC1.setErr 1
  have hb2 : Below C w (w'.setCell ⟨C, 3, none⟩ (.int .i64 1)) := hb1.setCell (p := ⟨C, 3, none⟩) (Nat.le_refl C) _
  go_wp2_with (go_at_call 25; refine hce.mono ?_; rintro e w' ⟨rfl, rfl⟩)
  go_ret3
  exact ⟨rfl, hC2, hb2⟩
set_option maxRecDepth 100000 in
set_option maxHeartbeats 2000000 in
theorem recv_empty (C d cap s r c capc sc rc : Nat) (e : Value) (w : World) (hC : Ctx w C d e 0 0) (hd : w.heap[d]? = some (.chan cap #[] true s r false)) (hdC : d ≠ C) (hc : w.heap[c]? = some (.chan capc #[] false sc rc false)) (hcC : c ≠ C) :
    Calls Yba.prog 6 #[.iface 34 (.pointer (some ⟨C, 0, none⟩)), .chan (some c)] w fun x w' => x = .returned (.tuple #[.int .i64 0, .bool false, e]) ∧ Ctx w' C d e 1 1 ∧ w'.heap[c]? = some (.chan capc #[] false sc rc false) ∧ Below C w w' := by
  have mD := methodDone
  have mE := methodErr
  have hcd := done_walk C d e 0 w hC
  have hC1 := hC.setDone 1
  have hd1 := (sel_heap w C d (.int .i64 1) 2 hdC).trans hd
  have hc1 := (sel_heap w C c (.int .i64 1) 2 hcC).trans hc
  have hb1 : Below C w (w.setCell ⟨C, 2, none⟩ (.int .i64 1)) := (Below.refl C w).setCell (p := ⟨C, 2, none⟩) (Nat.le_refl C) _
  obtain ⟨W1, hW1⟩ : ∃ W1, W1 = w.setCell ⟨C, 2, none⟩ (.int .i64 1) := ⟨_, rfl⟩
  rw [← hW1] at hcd hC1 hd1 hb1 hc1
  clear hW1
  go_enter Yba.func6, Yba.ntmps6
  go_upto_region 3 with (go_at_call 24; refine hcd.mono ?_; rintro e w' ⟨rfl, rfl⟩)
  refine wp_of_lone fun b k cs => ?_
  refine LoneTo.goes (n := 1) ?_
  s_reg
  s_stop
  refine lone_shut (kk := 0) (c := d) (z := (.agg #[])) (cap := cap) (s := s) (r := r) (tm := false) (cases := #[rcase d (.agg #[]), rcase c (.int .i64 0)]) (w' := w') rfl rfl (by simp [go_sem, execOp, rcase, Act.eval]) rfl (fun m c' hm hc' => ?_) hd1 ?_
  · rcases m with _ | _ | m
    · exact absurd rfl hm
    · simp only [List.getElem?_toArray, List.getElem?_cons_succ, List.getElem?_cons_zero, Option.some.injEq] at hc'
      subst hc'
      exact noWay_recv hc1
    · simp at hc'
  rw [Frame.finish_at, res_0]
  walk_nrm
  refine lone_op rfl rfl (fun K' hK' => ?_); go_simp; refine hK' _ _ ?_; clear hK' K'
  refine lone_op rfl rfl (fun K' hK' => ?_); go_simp; refine hK' _ _ ?_; clear hK' K'
  refine lone_op rfl rfl (fun K' hK' => ?_); go_simp; refine hK' _ _ ?_; clear hK' K'
  refine LoneTo.goes (n := 1) ?_
  s_c stepG_region_end
  s_stop
  refine LoneTo.done ⟨_, rfl, ?_⟩
  have hce := err_walk C d e 1 w' hC1
  have hC2 := hC1.setErr 1
  have hc2 := (sel_heap w' C c (.int .i64 1) 3 hcC).trans hc1
  have hb2 : Below C w (w'.setCell ⟨C, 3, none⟩ (.int .i64 1)) := hb1.setCell (p := ⟨C, 3, none⟩) (Nat.le_refl C) _
  go_wp2_with (go_at_call 25; refine hce.mono ?_; rintro e w' ⟨rfl, rfl⟩)
  go_ret3
  exact ⟨rfl, hC2, hc2, hb2⟩
/-- What receive may answer where both are ready. -/
def TwoEnds (C d c capc sc rc : Nat) (buf : Array Value) (e : Value) (w : World) (x : Ending) (w' : World) : Prop :=
  ((x = .returned (.tuple #[.int .i64 0, .bool false, e]) ∧ Ctx w' C d e 1 1 ∧ w'.heap[c]? = some (.chan capc buf true sc rc false)) ∨
   (0 < buf.size ∧ x = .returned (.tuple #[buf.getD 0 undef, .bool true, .nilIface]) ∧ Ctx w' C d e 1 0 ∧ w'.heap[c]? = some (.chan capc (buf.extract 1 buf.size) true sc (rc + 1) false)) ∨
   (buf.size = 0 ∧ x = .returned (.tuple #[.int .i64 0, .bool false, .nilIface]) ∧ Ctx w' C d e 1 0 ∧ w'.heap[c]? = some (.chan capc buf true sc rc false))) ∧ Below C w w'

theorem setChan_other (w : World) (c c' cap : Nat) (buf : Array Value) (closed : Bool) (s r : Nat) (tm : Bool) (h : c ≠ c') : (w.setChan c cap buf closed s r tm).heap[c']? = w.heap[c']? := by
  simp [World.setChan, Array.getElem?_setIfInBounds_ne h]

set_option maxRecDepth 100000 in
set_option maxHeartbeats 2000000 in
theorem recv_two (C d cap s r c capc sc rc : Nat) (buf : Array Value) (e : Value) (w : World) (hC : Ctx w C d e 0 0) (hd : w.heap[d]? = some (.chan cap #[] true s r false)) (hdC : d ≠ C) (hc : w.heap[c]? = some (.chan capc buf true sc rc false)) (hcC : C < c) (hcl : c < w.heap.size) :
    Calls Yba.prog 6 #[.iface 34 (.pointer (some ⟨C, 0, none⟩)), .chan (some c)] w (TwoEnds C d c capc sc rc buf e w) := by
  have mD := methodDone
  have mE := methodErr
  have hcd := done_walk C d e 0 w hC
  have hC1 := hC.setDone 1
  have hd1 := (sel_heap w C d (.int .i64 1) 2 hdC).trans hd
  have hc1 := (sel_heap w C c (.int .i64 1) 2 (by omega)).trans hc
  have hb1 : Below C w (w.setCell ⟨C, 2, none⟩ (.int .i64 1)) := (Below.refl C w).setCell (p := ⟨C, 2, none⟩) (Nat.le_refl C) _
  have hz1 : c < (w.setCell ⟨C, 2, none⟩ (.int .i64 1)).heap.size := by simpa using hcl
  obtain ⟨W1, hW1⟩ : ∃ W1, W1 = w.setCell ⟨C, 2, none⟩ (.int .i64 1) := ⟨_, rfl⟩
  rw [← hW1] at hcd hC1 hd1 hb1 hc1 hz1
  clear hW1 hC hd hc hcl
  go_enter Yba.func6, Yba.ntmps6
  go_upto_region 3 with (go_at_call 24; refine hcd.mono ?_; rintro e w' ⟨rfl, rfl⟩)
  refine wp_of_lone fun b k cs => ?_
  refine LoneTo.goes (n := 1) ?_
  s_reg
  s_stop
  refine lone_two (d := d) (c := c) (z0 := (.agg #[])) (z1 := .int .i64 0) (capd := cap) (sd := s) (rd := r) (tmd := false) (cap := capc) (s := sc) (r := rc) (tm := false) (buf := buf) (w' := w') rfl rfl (by simp [go_sem, execOp, rcase, Act.eval]) hd1 hc1 ?_ (fun hbuf => ?_) (fun hbuf => ?_)
  · rw [Frame.finish_at, res_0]
    walk_nrm
    refine lone_op rfl rfl (fun K' hK' => ?_); go_simp; refine hK' _ _ ?_; clear hK' K'
    refine lone_op rfl rfl (fun K' hK' => ?_); go_simp; refine hK' _ _ ?_; clear hK' K'
    refine lone_op rfl rfl (fun K' hK' => ?_); go_simp; refine hK' _ _ ?_; clear hK' K'
    refine LoneTo.goes (n := 1) ?_
    s_c stepG_region_end
    s_stop
    refine LoneTo.done ⟨_, rfl, ?_⟩
    have hC1' : Ctx w'.drew C d e 1 0 := hC1.on rfl (Nat.le_refl _)
    have hce := err_walk C d e 1 _ hC1'
    have hC2 := hC1'.setErr 1
    have hc2 : (w'.drew.setCell ⟨C, 3, none⟩ (.int .i64 1)).heap[c]? = some (.chan capc buf true sc rc false) := (sel_heap w'.drew C c (.int .i64 1) 3 (by omega)).trans hc1
    have hb2 : Below C w (w'.drew.setCell ⟨C, 3, none⟩ (.int .i64 1)) := hb1.drew.setCell (p := ⟨C, 3, none⟩) (Nat.le_refl C) _
    go_wp2_with (go_at_call 25; refine hce.mono ?_; rintro e w' ⟨rfl, rfl⟩)
    go_ret3
    exact ⟨.inl ⟨rfl, hC2, hc2⟩, hb2⟩
  · rw [Frame.finish_at, res_1]
    walk_nrm
    refine lone_op rfl rfl (fun K' hK' => ?_); go_simp; refine hK' _ _ ?_; clear hK' K'
    refine lone_op rfl rfl (fun K' hK' => ?_); go_simp; refine hK' _ _ ?_; clear hK' K'
    refine lone_op rfl rfl (fun K' hK' => ?_); go_simp; refine hK' _ _ ?_; clear hK' K'
    refine LoneTo.goes (n := 1) ?_
    s_c stepG_region_end
    s_stop
    refine LoneTo.done ⟨_, rfl, ?_⟩
    have hv : buf.getD 0 undef = buf[0] := by simp [Array.getD, hbuf]
    have hx : buf.extract 1 = buf.extract 1 buf.size := rfl
    have hC1' : Ctx (w'.drew.setChan c capc (buf.extract 1) true sc (rc + 1) false) C d e 1 0 := hC1.on (setChan_other _ _ _ _ _ _ _ _ _ (by omega)) (by rw [size_setChan]; exact Nat.le_refl _)
    have hc2 : (w'.drew.setChan c capc (buf.extract 1) true sc (rc + 1) false).heap[c]? = some (.chan capc (buf.extract 1 buf.size) true sc (rc + 1) false) := heap_setChan _ _ _ _ _ _ _ _ hz1
    have hb2 : Below C w (w'.drew.setChan c capc (buf.extract 1) true sc (rc + 1) false) := below_setChan hb1.drew (Nat.le_of_lt hcC) _ _ _ _ _ _
    generalize w'.drew.setChan c capc (buf.extract 1) true sc (rc + 1) false = W2 at *
    obtain ⟨v0, hv0⟩ : ∃ v0, v0 = buf[0] := ⟨_, rfl⟩
    rw [← hv0]
    go_wp2_with (fail)
    go_ret3
    exact ⟨.inr (.inl ⟨hbuf, by rw [hv, ← hv0]; rfl, hC1', hc2⟩), hb2⟩
  · rw [Frame.finish_at, res_1]
    walk_nrm
    refine lone_op rfl rfl (fun K' hK' => ?_); go_simp; refine hK' _ _ ?_; clear hK' K'
    refine lone_op rfl rfl (fun K' hK' => ?_); go_simp; refine hK' _ _ ?_; clear hK' K'
    refine lone_op rfl rfl (fun K' hK' => ?_); go_simp; refine hK' _ _ ?_; clear hK' K'
    refine LoneTo.goes (n := 1) ?_
    s_c stepG_region_end
    s_stop
    refine LoneTo.done ⟨_, rfl, ?_⟩
    have hC1' : Ctx w'.drew C d e 1 0 := hC1.on rfl (Nat.le_refl _)
    have hc2 : w'.drew.heap[c]? = some (.chan capc buf true sc rc false) := hc1
    have hb2 : Below C w w'.drew := hb1.drew
    go_wp2_with (fail)
    go_ret3
    exact ⟨.inr (.inr ⟨hbuf, rfl, hC1', hc2⟩), hb2⟩

end Go.Proofs.Ybulkddyy

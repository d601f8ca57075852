import Derived.Test.YbulkdducFmtShelf
import Derived.Test.YbulkdducFmtFacts
import Derived.Test.YbulkdducFmtLiftC
import Derived.Lib.AtoiErrMem
import Derived.WalkKit
import Derived.WalkSpells
namespace Go.Proofs.YbulkdducFmt
open Go.RowKit Go.Extern.Stop Go.Stop Go.Extern
set_option linter.unusedVariables false

theorem bel2 {w w1 : World} (h : Below w.heap.size w w1) (a b : Obj) : Below w.heap.size w ((w1.alloc a).alloc b).drew :=
  ((h.alloc h.size a).alloc (by have := h.size; simp; omega) b).drew

/-- A new error, made by fmt.Errorf. -/
def NewErr (w : World) (e : Ending) (w' : World) : Prop := (∃ N c ty, e = .returned (.iface 82 (.pointer (some ⟨N, 0, none⟩))) ∧ w.heap.size ≤ N ∧ w'.heap[N]? = some (.cells c ty (0, 0))) ∧ Below w.heap.size w w'

theorem new2 (w : World) (a : Obj) (c : Array Value) (t : TypeId) : ((w.alloc a).alloc (.cells c t)).drew.heap[w.heap.size + 1]? = some (.cells c t (0, 0)) := by
  show ((w.heap.push a).push (.cells c t))[w.heap.size + 1]? = _
  have := Array.getElem?_push_size (xs := w.heap.push a) (x := Obj.cells c t)
  rwa [Array.size_push] at this

set_option maxHeartbeats 1600000 in
theorem members_form (F : Interp) (P : Nat) (a : Option Addr) (len cap : Nat) (aF : Addr) (w : World) (hn : len ≠ 1) (hf : w.cell? ⟨0, 0, none⟩ = some (.iface 82 (.pointer (some aF)))) :
    Calls Ybaf.prog 11 #[.pointer (some ⟨P, 0, none⟩), .slice a len cap] w fun e w' => e = .returned (.iface 82 (.pointer (some aF))) ∧ w' = w := by
  have hn' : ¬ (len : Int) = 1 := by omega
  go_enter Ybaf.func11, Ybaf.ntmps11
  go_wp2
  go_ret
  exact ⟨rfl, rfl⟩

set_option maxHeartbeats 1600000 in
theorem members_second (F : Interp) (P : Nat) (a : Option Addr) (cap : Nat) (pr ml : Int) (w : World) (hF : F.answers w.tape) (h0 : 0 < pr) (c0 : w.cell? ⟨P, 0, none⟩ = some (.int .i64 pr)) (c5 : w.cell? ⟨P, 5, none⟩ = some (.int .i64 ml)) (hP : P < w.heap.size) :
    Calls Ybaf.prog 11 #[.pointer (some ⟨P, 0, none⟩), .slice a 1 cap] w fun e w' => NewErr w e w' := by
  have hF' := answers_open hF
  go_enter Ybaf.func11, Ybaf.ntmps11
  go_wp2
  go_ret
  exact ⟨⟨_, _, _, rfl, by omega, new2 w _ _ _⟩, by repeat (first | exact Below.refl _ _ | apply Below.drew | (refine Below.alloc ?_ (by simp <;> omega) _))⟩
set_option maxHeartbeats 1600000 in
theorem members_nonum (F : Interp) (P : Nat) (x : Addr) (cap : Nat) (s : ByteArray) (pr : Int) (aS : Addr) (w : World) (hF : F.answers w.tape) (h0 : pr ≤ 0) (c0 : w.cell? ⟨P, 0, none⟩ = some (.int .i64 pr)) (hs : w.cell? x = some (.string s)) (hz : s.size ≤ reachBytes)
    (hend : Lib.atoiAll s.data.toList = Lib.atoiAll []) (hv : w.var? Ybaf.prog "strconv.ErrSyntax" = some #[.iface 82 (.pointer (some aS))]) :
    Calls Ybaf.prog 11 #[.pointer (some ⟨P, 0, none⟩), .slice (some x) 1 cap] w fun e w' => NewErr w e w' := by
  have hF' := answers_open hF
  have h0' : ¬ 0 < pr := by omega
  have hlim : s.size ≤ 281474976710656 := by unfold reachBytes at hz; omega
  go_enter Ybaf.func11, Ybaf.ntmps11
  go_wp2_with (go_at_call 22; refine (Ybaf.strconv_Atoi_syntax_var s hlim hend 82 _ _ hv).mono ?_)
  rintro e w1 N rfl hN hc hb
  have hs1 : w1.cell? x = some (.string s) := (hb.cell (block_lt_of_cell hs)).trans hs
  have hF1 : F.answers w1.tape := by rw [hb.tape]; exact hF
  have hF1' := answers_open hF1
  have hw1 := hb.size
  clear hc hF'
  go_wp2
  go_ret
  exact ⟨⟨_, _, _, rfl, by omega, new2 w1 _ _ _⟩, bel2 hb _ _⟩
set_option maxHeartbeats 1600000 in
theorem members_range (F : Interp) (P : Nat) (x : Addr) (cap : Nat) (s : ByteArray) (pr : Int) (aS : Addr) (w : World) (hF : F.answers w.tape) (h0 : pr ≤ 0) (c0 : w.cell? ⟨P, 0, none⟩ = some (.int .i64 pr)) (hs : w.cell? x = some (.string s)) (hz : s.size ≤ reachBytes)
    (hend : Lib.atoiAll s.data.toList = .range) (hv : w.var? Ybaf.prog "strconv.ErrRange" = some #[.iface 82 (.pointer (some aS))]) :
    Calls Ybaf.prog 11 #[.pointer (some ⟨P, 0, none⟩), .slice (some x) 1 cap] w fun e w' => NewErr w e w' := by
  have hF' := answers_open hF
  have h0' : ¬ 0 < pr := by omega
  have hlim : s.size ≤ 281474976710656 := by unfold reachBytes at hz; omega
  go_enter Ybaf.func11, Ybaf.ntmps11
  go_wp2_with (go_at_call 22; refine (Ybaf.strconv_Atoi_range_var s hlim hend 82 _ _ hv).mono ?_)
  rintro e w1 N rfl hN hc hb
  have hs1 : w1.cell? x = some (.string s) := (hb.cell (block_lt_of_cell hs)).trans hs
  have hF1 : F.answers w1.tape := by rw [hb.tape]; exact hF
  have hF1' := answers_open hF1
  have hw1 := hb.size
  clear hc hF'
  go_wp2
  go_ret
  exact ⟨⟨_, _, _, rfl, by omega, new2 w1 _ _ _⟩, bel2 hb _ _⟩


set_option maxHeartbeats 1600000 in
theorem members_out (F : Interp) (P : Nat) (x : Addr) (cap : Nat) (s : ByteArray) (pr v : Int) (w : World) (hF : F.answers w.tape) (h0 : pr ≤ 0) (c0 : w.cell? ⟨P, 0, none⟩ = some (.int .i64 pr)) (hs : w.cell? x = some (.string s)) (hz : s.size ≤ reachBytes)
    (hend : Lib.atoiAll s.data.toList = .ok v) (hv : v < 1 ∨ 65535 < v) :
    Calls Ybaf.prog 11 #[.pointer (some ⟨P, 0, none⟩), .slice (some x) 1 cap] w fun e w' => NewErr w e w' := by
  have h0' : ¬ 0 < pr := by omega
  have hlim : s.size ≤ 9223372036854775806 := by unfold reachBytes at hz; omega
  go_enter Ybaf.func11, Ybaf.ntmps11
  go_wp2_with (go_at_call 22; refine (Ybaf.strconv_Atoi_ok s hlim v hend _).mono ?_)
  rintro e w1 rfl hw
  have hb : Below w.heap.size w w1 := by
    rcases hw with rfl | ⟨t, rfl⟩
    · exact Below.refl _ _
    · exact Lib.bytesWorld_below _ _ _
  have hs1 : w1.cell? x = some (.string s) := (hb.cell (block_lt_of_cell hs)).trans hs
  have hF1 : F.answers w1.tape := by rw [hb.tape]; exact hF
  have hF1' := answers_open hF1
  have hw1 := hb.size
  clear hw
  rcases hv with hv | hv
  · have g1 : (v < 1) := hv
    go_wp2
    go_ret
    exact ⟨⟨_, _, _, rfl, by omega, new2 w1 _ _ _⟩, bel2 hb _ _⟩
  · have g1 : ¬ (v < 1) := by omega
    have g2 : 65535 < v := hv
    go_wp2
    go_ret
    exact ⟨⟨_, _, _, rfl, by omega, new2 w1 _ _ _⟩, bel2 hb _ _⟩
end Go.Proofs.YbulkdducFmt

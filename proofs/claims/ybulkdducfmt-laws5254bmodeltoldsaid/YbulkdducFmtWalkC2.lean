import Derived.Test.YbulkdducFmtWalkC
import Derived.Deep.Cut
import Derived.Laws.MakeOwn
import Derived.Laws.OwnMore
namespace Go.Proofs.YbulkdducFmt
open Go.RowKit Go.Extern.Stop Go.Stop Go.Extern
set_option linter.unusedVariables false

/-- The parser at block P. -/
structure Pars (w : World) (P : Nat) (mem ln ml : Int) (fates : Value) : Prop where
  c0 : w.cell? ⟨P, 0, none⟩ = some (.int .i64 mem)
  c1 : w.cell? ⟨P, 1, none⟩ = some (.slice none 0 0)
  c3 : w.cell? ⟨P, 3, none⟩ = some (.int .i64 ln)
  c5 : w.cell? ⟨P, 5, none⟩ = some (.int .i64 ml)
  c7 : w.cell? ⟨P, 7, none⟩ = some fates
  fr : ∀ o, w.frozen? ⟨P, o, none⟩ = false
  lt : P < w.heap.size

/-- The row that make lays. -/
def FK (n : Nat) : Array Value := madeCells #[.bool false, .int .i64 0] (n * 2)
theorem info63 : (Ybaf.prog.info? 63).map (fun i => (i.zero, i.size, i.bytes)) = some (some (.agg #[.bool false, .int .i64 0]), 2, 16) := by kernel_rfl
theorem make_fates (n : Nat) (hn : n ≤ 65535) (w : World) : (Instr.makeSlice 29 (.int .i64 (n : Int)) (.int .i64 (n : Int))).run Ybaf.prog w = .ok (.slice (some ⟨w.heap.size, 0, none⟩) n n) (w.alloc (.cells (FK n) 63)) := by
  have hi := info63
  cases h1 : Ybaf.prog.info? 63 with
  | none => rw [h1] at hi; cases hi
  | some i =>
    rw [h1] at hi
    simp only [Option.map_some, Option.some.injEq, Prod.mk.injEq] at hi
    obtain ⟨h2, h3, h4⟩ := hi
    have := run_make (P := Ybaf.prog) w 29 63 i _ Ybaf.underlying29 h1 h2 .i64 .i64 (n : Int) (n : Int) (by omega) (by omega) (by rw [h4]; omega) (by omega)
    rw [h3] at this
    simp only [Int.toNat_natCast] at this
    exact this

/-- The world behind an accepted members line. -/
def okWorld (w1 : World) (P n : Nat) (ln : Int) : World :=
  ((((w1.setCell ⟨P, 0, none⟩ (.int .i64 n)).setCell ⟨P, 5, none⟩ (.int .i64 ln)).setCell ⟨P, 7, none⟩ (.slice (some ⟨w1.heap.size, 0, none⟩) n n)).alloc (.cells (FK n) 63))

set_option maxRecDepth 100000 in
set_option maxHeartbeats 1600000 in
theorem members_ok (P : Nat) (x : Addr) (cap : Nat) (s : ByteArray) (pr ln ml : Int) (n : Nat) (w : World) (h0 : pr ≤ 0) (hP : Pars w P pr ln ml (.slice none 0 0)) (hs : w.cell? x = some (.string s)) (hz : s.size ≤ reachBytes)
    (hend : Lib.atoiAll s.data.toList = .ok (n : Int)) (h1 : 1 ≤ n) (h2 : n ≤ 65535) :
    Calls Ybaf.prog 11 #[.pointer (some ⟨P, 0, none⟩), .slice (some x) 1 cap] w fun e w' => e = .returned .nilIface ∧ ∃ w1, Below w.heap.size w w1 ∧ w' = okWorld w1 P n ln := by
  have h0' : ¬ 0 < pr := by omega
  have hlim : s.size ≤ 9223372036854775806 := by unfold reachBytes at hz; omega
  have c0 := hP.c0
  go_enter Ybaf.func11, Ybaf.ntmps11
  go_wp2_with (go_at_call 22; refine (Ybaf.strconv_Atoi_ok s hlim (n : Int) hend _).mono ?_)
  rintro e w1 rfl hw
  have hb : Below w.heap.size w w1 := by
    rcases hw with rfl | ⟨t, rfl⟩
    · exact Below.refl _ _
    · exact Lib.bytesWorld_below _ _ _
  have hs1 : w1.cell? x = some (.string s) := (hb.cell (block_lt_of_cell hs)).trans hs
  have hw1 := hb.size
  have d0 := (hb.cell (p := ⟨P, 0, none⟩) hP.lt).trans hP.c0
  have d3 := (hb.cell (p := ⟨P, 3, none⟩) hP.lt).trans hP.c3
  have d5 := (hb.cell (p := ⟨P, 5, none⟩) hP.lt).trans hP.c5
  have d7 := (hb.cell (p := ⟨P, 7, none⟩) hP.lt).trans hP.c7
  have df : ∀ o, w1.frozen? ⟨P, o, none⟩ = false := fun o => (hb.frozen (p := ⟨P, o, none⟩) hP.lt).trans (hP.fr o)
  have g1 : ¬ ((n : Int) < 1) := by omega
  have g2 : ¬ 65535 < (n : Int) := by omega
  clear hw
  have hmk := make_fates n h2
  have hPl : P < w1.heap.size := Nat.lt_of_lt_of_le hP.lt hb.size
  go_wp2_with fail
  go_ret
  exact ⟨rfl, w1, hb, rfl⟩
end Go.Proofs.YbulkdducFmt

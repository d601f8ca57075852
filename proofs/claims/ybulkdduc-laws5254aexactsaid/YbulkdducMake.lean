import Derived.Test.YbulkdducWake
namespace Go.Proofs.Ybulkdduc
open Go.RowKit

/-- The row that 'make([]Member, k)' lays. -/
def MK (k : Nat) : Array Value := madeCells #[.string ⟨#[]⟩, .int .u64 0, .int .u64 0, .pointer none, .int .u16 0, .int .u64 0] (k * 6)

theorem info36 : (Yba.prog.info? 36).map (fun i => (i.zero, i.size, i.bytes)) = some (some (.agg #[.string ⟨#[]⟩, .int .u64 0, .int .u64 0, .pointer none, .int .u16 0, .int .u64 0]), 6, 56) := by kernel_rfl

theorem make_members (k : Nat) (hk : k ≤ 8) (w : World) : (Instr.makeSlice 24 (.int .i64 (k : Int)) (.int .i64 (k : Int))).run Yba.prog w = .ok (.slice (some ⟨w.heap.size, 0, none⟩) k k) (w.alloc (.cells (MK k) 36)) := by
  have hi := info36
  cases h1 : Yba.prog.info? 36 with
  | none => rw [h1] at hi; cases hi
  | some i =>
    rw [h1] at hi
    simp only [Option.map_some, Option.some.injEq, Prod.mk.injEq] at hi
    obtain ⟨h2, h3, h4⟩ := hi
    have := run_make (P := Yba.prog) w 24 36 i _ Yba.underlying24 h1 h2 .i64 .i64 (k : Int) (k : Int) (by omega) (by omega) (by rw [h4]; omega) (by omega)
    rw [h3] at this
    simp only [Int.toNat_natCast] at this
    exact this

/-- The first j members are written; the row's cells are there and may be written. -/
structure PMems (w : World) (B k j : Nat) : Prop where
  c0 : ∀ i, i < j → w.cell? ⟨B, i * 6, none⟩ = some (.string (nm i))
  c1 : ∀ i, i < j → w.cell? ⟨B, i * 6 + 1, none⟩ = some (.int .u64 0)
  c2 : ∀ i, i < j → w.cell? ⟨B, i * 6 + 2, none⟩ = some (.int .u64 0)
  c3 : ∀ i, i < j → w.cell? ⟨B, i * 6 + 3, none⟩ = some (.pointer none)
  c4 : ∀ i, i < j → w.cell? ⟨B, i * 6 + 4, none⟩ = some (.int .u16 0)
  c5 : ∀ i, i < j → w.cell? ⟨B, i * 6 + 5, none⟩ = some (.int .u64 i)
  is : ∀ o, o < k * 6 → ∃ v, w.cell? ⟨B, o, none⟩ = some v
  fr : ∀ o, w.frozen? ⟨B, o, none⟩ = false
  lt : B < w.heap.size

theorem PMems.mems {w : World} {B k : Nat} (h : PMems w B k k) : Mems w B k := ⟨h.c0, h.c1, h.c2, h.c3, h.c4, h.c5, h.lt⟩

theorem pmems_made (w : World) (k : Nat) : PMems (w.alloc (.cells (MK k) 36)) w.heap.size k 0 := by
  refine ⟨fun i h => by omega, fun i h => by omega, fun i h => by omega, fun i h => by omega, fun i h => by omega, fun i h => by omega, fun o ho => ?_, fun o => by go_simp, by simp⟩
  have hs : o < (MK k).size := by unfold MK; rw [size_madeCells]; exact ho
  refine ⟨(MK k)[o], ?_⟩
  rw [World.cell?_alloc_new]
  exact Array.getElem?_eq_getElem hs

/-- Six stores in a row. -/
def s6 (w : World) (B o : Nat) (x0 x1 x2 x3 x4 x5 : Value) : World :=
  (((((w.setCell ⟨B, o, none⟩ x0).setCell ⟨B, o + 1, none⟩ x1).setCell ⟨B, o + 2, none⟩ x2).setCell ⟨B, o + 3, none⟩ x3).setCell ⟨B, o + 4, none⟩ x4).setCell ⟨B, o + 5, none⟩ x5

theorem set_far (w : World) (B p q : Nat) (v : Value) (h : p ≠ q) : (w.setCell ⟨B, p, none⟩ v).cell? ⟨B, q, none⟩ = w.cell? ⟨B, q, none⟩ :=
  World.cell?_setCell_other w ⟨B, p, none⟩ ⟨B, q, none⟩ v (fun e => h (congrArg Addr.off e))
theorem set_at (w : World) (B p : Nat) (v : Value) (h : ∃ u, w.cell? ⟨B, p, none⟩ = some u) : (w.setCell ⟨B, p, none⟩ v).cell? ⟨B, p, none⟩ = some v := by
  obtain ⟨u, hu⟩ := h
  exact World.cell?_setCell_same w ⟨B, p, none⟩ v hu

theorem s6_out (w : World) (B o q : Nat) (x0 x1 x2 x3 x4 x5 : Value) (h : q < o ∨ o + 5 < q) : (s6 w B o x0 x1 x2 x3 x4 x5).cell? ⟨B, q, none⟩ = w.cell? ⟨B, q, none⟩ := by
  unfold s6
  rw [set_far _ _ _ _ _ (by omega), set_far _ _ _ _ _ (by omega), set_far _ _ _ _ _ (by omega), set_far _ _ _ _ _ (by omega), set_far _ _ _ _ _ (by omega), set_far _ _ _ _ _ (by omega)]

theorem s6_in (w : World) (B o : Nat) (x0 x1 x2 x3 x4 x5 : Value) (h : ∀ t, t < 6 → ∃ u, w.cell? ⟨B, o + t, none⟩ = some u) :
    (s6 w B o x0 x1 x2 x3 x4 x5).cell? ⟨B, o, none⟩ = some x0 ∧ (s6 w B o x0 x1 x2 x3 x4 x5).cell? ⟨B, o + 1, none⟩ = some x1 ∧ (s6 w B o x0 x1 x2 x3 x4 x5).cell? ⟨B, o + 2, none⟩ = some x2 ∧ (s6 w B o x0 x1 x2 x3 x4 x5).cell? ⟨B, o + 3, none⟩ = some x3 ∧ (s6 w B o x0 x1 x2 x3 x4 x5).cell? ⟨B, o + 4, none⟩ = some x4 ∧ (s6 w B o x0 x1 x2 x3 x4 x5).cell? ⟨B, o + 5, none⟩ = some x5 := by
  have f0 := h 0 (by omega)
  have f1 := h 1 (by omega)
  have f2 := h 2 (by omega)
  have f3 := h 3 (by omega)
  have f4 := h 4 (by omega)
  have f5 := h 5 (by omega)
  unfold s6
  refine ⟨?_, ?_, ?_, ?_, ?_, ?_⟩
  · rw [set_far _ _ _ _ _ (by omega), set_far _ _ _ _ _ (by omega), set_far _ _ _ _ _ (by omega), set_far _ _ _ _ _ (by omega), set_far _ _ _ _ _ (by omega)]
    exact set_at _ _ _ _ f0
  · rw [set_far _ _ _ _ _ (by omega), set_far _ _ _ _ _ (by omega), set_far _ _ _ _ _ (by omega), set_far _ _ _ _ _ (by omega)]
    refine set_at _ _ _ _ ?_
    rw [set_far _ _ _ _ _ (by omega)]; exact f1
  · rw [set_far _ _ _ _ _ (by omega), set_far _ _ _ _ _ (by omega), set_far _ _ _ _ _ (by omega)]
    refine set_at _ _ _ _ ?_
    rw [set_far _ _ _ _ _ (by omega), set_far _ _ _ _ _ (by omega)]; exact f2
  · rw [set_far _ _ _ _ _ (by omega), set_far _ _ _ _ _ (by omega)]
    refine set_at _ _ _ _ ?_
    rw [set_far _ _ _ _ _ (by omega), set_far _ _ _ _ _ (by omega), set_far _ _ _ _ _ (by omega)]; exact f3
  · rw [set_far _ _ _ _ _ (by omega)]
    refine set_at _ _ _ _ ?_
    rw [set_far _ _ _ _ _ (by omega), set_far _ _ _ _ _ (by omega), set_far _ _ _ _ _ (by omega), set_far _ _ _ _ _ (by omega)]; exact f4
  · refine set_at _ _ _ _ ?_
    rw [set_far _ _ _ _ _ (by omega), set_far _ _ _ _ _ (by omega), set_far _ _ _ _ _ (by omega), set_far _ _ _ _ _ (by omega), set_far _ _ _ _ _ (by omega)]; exact f5

theorem s6_some (w : World) (B o q : Nat) (x0 x1 x2 x3 x4 x5 : Value) (h : ∃ u, w.cell? ⟨B, q, none⟩ = some u) : ∃ u, (s6 w B o x0 x1 x2 x3 x4 x5).cell? ⟨B, q, none⟩ = some u := by
  obtain ⟨u, hu⟩ := h
  unfold s6
  obtain ⟨u, hu⟩ := cell?_setCell_some (p := ⟨B, o, none⟩) (x := x0) hu
  obtain ⟨u, hu⟩ := cell?_setCell_some (p := ⟨B, o + 1, none⟩) (x := x1) hu
  obtain ⟨u, hu⟩ := cell?_setCell_some (p := ⟨B, o + 2, none⟩) (x := x2) hu
  obtain ⟨u, hu⟩ := cell?_setCell_some (p := ⟨B, o + 3, none⟩) (x := x3) hu
  obtain ⟨u, hu⟩ := cell?_setCell_some (p := ⟨B, o + 4, none⟩) (x := x4) hu
  exact cell?_setCell_some (p := ⟨B, o + 5, none⟩) (x := x5) hu

theorem PMems.step {w : World} {B k j : Nat} (h : PMems w B k j) (hj : j < k) :
    PMems (s6 w B (j * 6) (.string (nm j)) (.int .u64 0) (.int .u64 0) (.pointer none) (.int .u16 0) (.int .u64 j)) B k (j + 1) := by
  obtain ⟨e0, e1, e2, e3, e4, e5⟩ := s6_in w B (j * 6) (.string (nm j)) (.int .u64 0) (.int .u64 0) (.pointer none) (.int .u16 0) (.int .u64 j) (fun t ht => h.is _ (by omega))
  refine ⟨fun i hi => ?_, fun i hi => ?_, fun i hi => ?_, fun i hi => ?_, fun i hi => ?_, fun i hi => ?_, fun o ho => s6_some _ _ _ _ _ _ _ _ _ _ (h.is o ho), fun o => ?_, ?_⟩
  · rcases Nat.lt_or_ge i j with hlt | hge
    · rw [s6_out _ _ _ _ _ _ _ _ _ _ (by omega)]; exact h.c0 i hlt
    · obtain rfl : i = j := by omega
      exact e0
  · rcases Nat.lt_or_ge i j with hlt | hge
    · rw [s6_out _ _ _ _ _ _ _ _ _ _ (by omega)]; exact h.c1 i hlt
    · obtain rfl : i = j := by omega
      exact e1
  · rcases Nat.lt_or_ge i j with hlt | hge
    · rw [s6_out _ _ _ _ _ _ _ _ _ _ (by omega)]; exact h.c2 i hlt
    · obtain rfl : i = j := by omega
      exact e2
  · rcases Nat.lt_or_ge i j with hlt | hge
    · rw [s6_out _ _ _ _ _ _ _ _ _ _ (by omega)]; exact h.c3 i hlt
    · obtain rfl : i = j := by omega
      exact e3
  · rcases Nat.lt_or_ge i j with hlt | hge
    · rw [s6_out _ _ _ _ _ _ _ _ _ _ (by omega)]; exact h.c4 i hlt
    · obtain rfl : i = j := by omega
      exact e4
  · rcases Nat.lt_or_ge i j with hlt | hge
    · rw [s6_out _ _ _ _ _ _ _ _ _ _ (by omega)]; exact h.c5 i hlt
    · obtain rfl : i = j := by omega
      exact e5
  · have := h.fr o
    unfold s6
    go_simp
  · have := h.lt
    unfold s6
    simpa [World.size_setCell] using this

theorem below_s6 {N B o : Nat} {a w : World} (h : Below N a w) (hb : N ≤ B) (x0 x1 x2 x3 x4 x5 : Value) : Below N a (s6 w B o x0 x1 x2 x3 x4 x5) :=
  (((((h.setCell hb x0).setCell hb x1).setCell hb x2).setCell hb x3).setCell hb x4).setCell hb x5

theorem encode_nm (j : Nat) (hj : j < 9) : Utf8.encode (97 + (j : Int)) = nm j := by
  have : ∀ j : Fin 9, Utf8.encode (97 + ((j.1 : Nat) : Int)) = nm j.1 := by decide +kernel
  exact this ⟨j, hj⟩
end Go.Proofs.Ybulkdduc

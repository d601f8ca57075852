import Derived.Test.YbulkdducFmtWalkC2
import Derived.Test.YbulkdducFmtFactsB
import Derived.Test.YbulkdducFmtPlainB
import Derived.Test.YbulkdducFmtLiftM
import Derived.Lib.ItoaLen
import Derived.Lib.AppendIntMem
namespace Go.Proofs.YbulkdducFmt
open Go.RowKit Go.Extern.Stop Go.Stop Go.Extern
set_option linter.unusedVariables false

/-- The tables and the variables stay. -/
abbrev Tab (w : World) : Prop := Lib.TabIs Ybaf.prog w powName .u64 Lib.pow10Tab
theorem Tab.on {w w' : World} (h : Tab w) (hb : Below w.heap.size w w') : Tab w' := var_below hb h

def nPre : ByteArray := ⟨#[110]⟩

theorem cut_n (d : List UInt8) : Lib.trimPrefix (110 :: d) nPre.data.toList = d ∧ Lib.hasPrefix (110 :: d) nPre.data.toList = true := by
  have e : nPre.data.toList = [110] := rfl
  rw [e]
  simp [Lib.trimPrefix, Lib.hasPrefix]

set_option maxRecDepth 100000 in
set_option maxHeartbeats 2000000 in
theorem member_ok (P m i : Nat) (s : ByteArray) (w : World) (c0 : w.cell? ⟨P, 0, none⟩ = some (.int .i64 m)) (hs : s.data.toList = 110 :: Lib.decDigits (i + 1)) (hi : i < m) (hm : m ≤ 300) (hT : Tab w) :
    Calls Ybaf.prog 16 #[.pointer (some ⟨P, 0, none⟩), .string s] w fun e w' => e = .returned (.tuple #[.int .i64 i, .nilIface]) ∧ Below w.heap.size w w' := by
  have hP := block_lt_of_cell c0
  have hm0 : ¬ (m : Int) = 0 := by omega
  have hcut := Ybaf.strings_CutPrefix s nPre
  obtain ⟨x1, x2⟩ := cut_n (Lib.decDigits (i + 1))
  rw [hs, x1, x2] at hcut
  obtain ⟨dS, hd⟩ : ∃ d : ByteArray, d = ⟨(Lib.decDigits (i + 1)).toArray⟩ := ⟨_, rfl⟩
  rw [← hd] at hcut
  have hds : dS.size ≤ 9223372036854775806 := by
    rw [hd]
    show (Lib.decDigits (i + 1)).toArray.size ≤ _
    have := Lib.itoa_length_le ((i + 1 : Nat) : Int) (by omega) (by omega)
    rw [itoa_dec] at this
    simp; omega
  have hat : Lib.atoiAll dS.data.toList = .ok ((i + 1 : Nat) : Int) := by rw [hd]; exact atoi_dec _ (by omega)
  have hit : ∀ w, Tab w → Calls Ybaf.prog 10 #[.int .i64 ((i + 1 : Nat) : Int)] w fun e w' => e = .returned (.string dS) ∧ Below w.heap.size w w' := fun w hT => by
    have := Ybaf.strconv_Itoa ((i + 1 : Nat) : Int) (by omega) (by omega) w hT
    rw [itoa_dec, ← hd] at this
    exact this.mono fun e w' ⟨he, k, os, hw⟩ => ⟨he, by rw [hw]; exact Lib.below_grow _ _ (Nat.le_refl _) _ _⟩
  clear hd x1 x2 hs
  have g1 : ¬ ((i + 1 : Nat) : Int) < 1 := by omega
  have g2 : ¬ (m : Int) < ((i + 1 : Nat) : Int) := by omega
  obtain ⟨v, hv⟩ : ∃ v : Int, v = ((i + 1 : Nat) : Int) := ⟨_, rfl⟩
  have hvi : v - 1 = (i : Int) := by omega
  have hv1 : 1 ≤ v := by omega
  have hv2 : v ≤ 300 := by omega
  rw [← hv] at hat hit g1 g2
  clear hv
  go_enter Ybaf.func16, Ybaf.ntmps16
  go_wp2_with (first
    | (go_at_call 23; refine (hcut _).mono ?_; rintro e w ⟨rfl, rfl⟩)
    | (go_at_call 22; refine (Ybaf.strconv_Atoi_ok dS hds v hat _).mono ?_))
  rintro e w1 ⟨rfl, hw⟩
  have hb : Below w.heap.size w w1 := by
    rcases hw with rfl | ⟨t, rfl⟩
    · exact Below.refl _ _
    · exact Lib.bytesWorld_below _ _ _
  clear hw
  have d0 := (hb.cell (p := ⟨P, 0, none⟩) hP).trans c0
  have hT1 : Tab w1 := hT.on hb
  go_wp2_with (go_at_call 10; refine (hit _ hT1).mono ?_)
  rintro e w2 ⟨rfl, hb2⟩
  go_wp2
  go_ret2
  exact ⟨rfl, hb.trans (hb2.mono hb.size)⟩
theorem pair_walk (a b : Int) (w : World) :
    Calls Ybaf.prog 18 #[.int .i64 a, .int .i64 b] w fun e w' => e = .returned (.agg #[.int .i64 (min a b), .int .i64 (max a b)]) ∧ Below w.heap.size w w' := by
  go_enter Ybaf.func18, Ybaf.ntmps18
  go_wp2
  refine bodyPost_ret (v := .agg #[.int .i64 (min a b), .int .i64 (max a b)]) (by simp [results, Ybaf.results18, go_sem]) rfl ⟨rfl, (Below.refl _ _).alloc (Nat.le_refl _) _⟩

/-- The word names member a, in every world behind w. -/
def MemIs (w : World) (P : Nat) (s : ByteArray) (a : Nat) : Prop := ∀ w', Below w.heap.size w w' → Calls Ybaf.prog 16 #[.pointer (some ⟨P, 0, none⟩), .string s] w' fun e w'' => e = .returned (.tuple #[.int .i64 a, .nilIface]) ∧ Below w'.heap.size w' w''

theorem MemIs.on {w w1 : World} {P a : Nat} {s : ByteArray} (h : MemIs w P s a) (hb : Below w.heap.size w w1) : MemIs w1 P s a := fun w' hb' => h w' (hb.trans (hb'.mono hb.size))

theorem memIs_of {w : World} {P m i : Nat} {s : ByteArray} (c0 : w.cell? ⟨P, 0, none⟩ = some (.int .i64 m)) (hs : s.data.toList = 110 :: Lib.decDigits (i + 1)) (hi : i < m) (hm : m ≤ 300) (hT : Tab w) : MemIs w P s i :=
  fun w' hb => member_ok P m i s w' ((hb.cell (p := ⟨P, 0, none⟩) (block_lt_of_cell c0)).trans c0) hs hi hm (hT.on hb)

/-- The world with the result's variable. -/
def keyWorld (w : World) : World := w.alloc (.cells #[.int .i64 0, .int .i64 0] 33)
theorem keyWorld_below (w : World) : Below w.heap.size w (keyWorld w) := (Below.refl _ _).alloc (Nat.le_refl _) _
theorem keyWorld_c0 (w : World) : (keyWorld w).cell? ⟨w.heap.size, 0, none⟩ = some (.int .i64 0) := by unfold keyWorld; go_simp
theorem keyWorld_c1 (w : World) : (keyWorld w).cell? ⟨w.heap.size, 1, none⟩ = some (.int .i64 0) := by unfold keyWorld; go_simp
theorem keyWorld_fr (w : World) (o : Nat) : (keyWorld w).frozen? ⟨w.heap.size, o, none⟩ = false := by unfold keyWorld; go_simp
theorem keyWorld_lt (w : World) : w.heap.size < (keyWorld w).heap.size := by unfold keyWorld; simp

set_option maxRecDepth 100000 in
set_option maxHeartbeats 2000000 in
/-- Two members: the smaller first. -/
theorem pairOf_ok (P a b : Nat) (x : Addr) (cap : Nat) (s0 s1 : ByteArray) (w : World) (hs0 : w.cell? x = some (.string s0)) (hs1 : w.cell? (x.add 1) = some (.string s1))
    (hA : MemIs w P s0 a) (hB : MemIs w P s1 b) (hab : a ≠ b) (hc : 2 ≤ cap) :
    Calls Ybaf.prog 7 #[.pointer (some ⟨P, 0, none⟩), .slice (some x) 2 cap] w fun e w' => e = .returned (.tuple #[.agg #[.int .i64 (min (a : Int) b), .int .i64 (max (a : Int) b)], .nilIface]) ∧ Below w.heap.size w w' := by
  have hx0 := block_lt_of_cell hs0
  have hx1 := block_lt_of_cell hs1
  have hab' : ¬ (a : Int) = b := by omega
  have hbA := keyWorld_below w
  have hcA := hA _ hbA
  have hk0 := keyWorld_c0 w
  have hk1 := keyWorld_c1 w
  have hkf := keyWorld_fr w
  have hkl := keyWorld_lt w
  go_enter Ybaf.func7, Ybaf.ntmps7
  go_wp2_with (go_at_call 16; refine hcA.mono ?_)
  rintro e w1 ⟨rfl, hb1⟩
  have hbW1 : Below w.heap.size w w1 := hbA.trans (hb1.mono hbA.size)
  have hcB := hB _ hbW1
  have e1 : w1.cell? ⟨x.block, x.off + 1, none⟩ = some (.string s1) := (hbW1.cell hx1).trans hs1
  clear hcA hA hB
  go_wp2_with (go_at_call 16; refine hcB.mono ?_)
  rintro e w2 ⟨rfl, hb2⟩
  have hbW2 : Below w.heap.size w w2 := hbW1.trans (hb2.mono hbW1.size)
  have hk2 := hb1.trans (hb2.mono hb1.size)
  clear hcB
  go_wp2_with (go_at_call 18; refine (pair_walk _ _ _).mono ?_)
  rintro e w3 ⟨rfl, hb3⟩
  have hk3 := hk2.trans (hb3.mono hk2.size)
  have hbW3 : Below w.heap.size w w3 := hbW2.trans (hb3.mono hbW2.size)
  have d0 := (hk3.cell (p := ⟨w.heap.size, 0, none⟩) hkl).trans hk0
  have d1 := (hk3.cell (p := ⟨w.heap.size, 1, none⟩) hkl).trans hk1
  have df : ∀ o, w3.frozen? ⟨w.heap.size, o, none⟩ = false := fun o => (hk3.frozen (p := ⟨w.heap.size, o, none⟩) hkl).trans (hkf o)
  clear hk0 hk1 hkf hb1 hb2 hb3
  go_wp2
  refine bodyPost_ret (v := .tuple #[.agg #[.int .i64 (min (a : Int) b), .int .i64 (max (a : Int) b)], .nilIface]) (by simp [results, Ybaf.results7, go_sem, d0, d1]) rfl ⟨rfl, (hbW3.setCell (Nat.le_refl _) _).setCell (Nat.le_refl _) _⟩

theorem res7 (tmps : Array Value) (w : World) (B : Nat) (u v : Int) (e : Value) (h4 : tmps.getD 4 undef = .pointer (some ⟨B, 0, none⟩)) (h5 : tmps.getD 5 undef = e) (c0 : w.cell? ⟨B, 0, none⟩ = some (.int .i64 u)) (c1 : w.cell? ⟨B, 1, none⟩ = some (.int .i64 v)) :
    (results Ybaf.f7 tmps).run Ybaf.prog w = .ok (.tuple #[.agg #[.int .i64 u, .int .i64 v], e]) w := by
  rw [results_cell_tmp Ybaf.results7, h4, h5]
  simp [go_sem, c0, c1]

theorem set_key {w : World} {B : Nat} {u v : Value} {x y : Value} (c0 : w.cell? ⟨B, 0, none⟩ = some u) (c1 : w.cell? ⟨B, 1, none⟩ = some v) : ((w.setCell ⟨B, 0, none⟩ x).setCell ⟨B, 1, none⟩ y).cell? ⟨B, 0, none⟩ = some x ∧ ((w.setCell ⟨B, 0, none⟩ x).setCell ⟨B, 1, none⟩ y).cell? ⟨B, 1, none⟩ = some y := by
  constructor <;> go_simp

theorem more2 (w : World) (a b : Obj) : Below w.heap.size w ((w.alloc a).alloc b).drew := bel2 (Below.refl _ _) a b

/-- An error, and the zero key. -/
def PairErr (w : World) (e : Ending) (w' : World) : Prop := (∃ N c ty, e = .returned (.tuple #[.agg #[.int .i64 0, .int .i64 0], .iface 82 (.pointer (some ⟨N, 0, none⟩))]) ∧ w.heap.size ≤ N ∧ w'.heap[N]? = some (.cells c ty (0, 0))) ∧ Below w.heap.size w w'

set_option maxRecDepth 100000 in
set_option maxHeartbeats 2000000 in
/-- One member twice. -/
theorem pairOf_same (F : Interp) (P a : Nat) (x : Addr) (cap : Nat) (s0 s1 : ByteArray) (w : World) (hF : F.answers w.tape) (hs0 : w.cell? x = some (.string s0)) (hs1 : w.cell? (x.add 1) = some (.string s1))
    (hA : MemIs w P s0 a) (hB : MemIs w P s1 a) (hc : 2 ≤ cap) :
    Calls Ybaf.prog 7 #[.pointer (some ⟨P, 0, none⟩), .slice (some x) 2 cap] w (PairErr w) := by
  have hx0 := block_lt_of_cell hs0
  have hx1 := block_lt_of_cell hs1
  have hbA := keyWorld_below w
  have hcA := hA _ hbA
  have hk0 := keyWorld_c0 w
  have hk1 := keyWorld_c1 w
  have hkf := keyWorld_fr w
  have hkl := keyWorld_lt w
  go_enter Ybaf.func7, Ybaf.ntmps7
  go_wp2_with (go_at_call 16; refine hcA.mono ?_)
  rintro e w1 ⟨rfl, hb1⟩
  have hbW1 : Below w.heap.size w w1 := hbA.trans (hb1.mono hbA.size)
  have hcB := hB _ hbW1
  have e1 : w1.cell? ⟨x.block, x.off + 1, none⟩ = some (.string s1) := (hbW1.cell hx1).trans hs1
  clear hcA hA hB
  go_wp2_with (go_at_call 16; refine hcB.mono ?_)
  rintro e w2 ⟨rfl, hb2⟩
  have hbW2 : Below w.heap.size w w2 := hbW1.trans (hb2.mono hbW1.size)
  have hk2 := hb1.trans (hb2.mono hb1.size)
  have hF2 : F.answers w2.tape := by rw [hbW2.tape]; exact hF
  have hF2' := answers_open hF2
  have d0 := (hk2.cell (p := ⟨w.heap.size, 0, none⟩) hkl).trans hk0
  have d1 := (hk2.cell (p := ⟨w.heap.size, 1, none⟩) hkl).trans hk1
  have df : ∀ o, w2.frozen? ⟨w.heap.size, o, none⟩ = false := fun o => (hk2.frozen (p := ⟨w.heap.size, o, none⟩) hkl).trans (hkf o)
  have e2 : w2.cell? x = some (.string s0) := (hbW2.cell hx0).trans hs0
  have hkl2 : w.heap.size < w2.heap.size := Nat.lt_of_lt_of_le hkl hk2.size
  clear hcB hk0 hk1 hkf hb1 hb2 hs0 hs1 hF
  obtain ⟨w3, hw3⟩ : ∃ w3, w3 = (w2.setCell ⟨w.heap.size, 0, none⟩ (.int .i64 0)).setCell ⟨w.heap.size, 1, none⟩ (.int .i64 0) := ⟨_, rfl⟩
  have hz : w3.heap.size = w2.heap.size := by rw [hw3]; simp
  obtain ⟨k0, k1⟩ := set_key (x := .int .i64 0) (y := .int .i64 0) d0 d1
  rw [← hw3] at k0 k1
  have hbW3 : Below w.heap.size w w3 := by rw [hw3]; exact (hbW2.setCell (Nat.le_refl _) _).setCell (Nat.le_refl _) _
  go_wp2
  rw [← hw3]
  refine bodyPost_ret (res7 _ _ w.heap.size 0 0 (.iface 82 (.pointer (some ⟨w2.heap.size + 1, 0, none⟩))) rfl rfl (((more2 w3 _ _).cell (p := ⟨w.heap.size, 0, none⟩) (by show w.heap.size < _; omega)).trans k0) (((more2 w3 _ _).cell (p := ⟨w.heap.size, 1, none⟩) (by show w.heap.size < _; omega)).trans k1)) rfl ⟨⟨_, _, _, rfl, by omega, by rw [← hz]; exact new2 w3 _ _ _⟩, bel2 hbW3 _ _⟩
end Go.Proofs.YbulkdducFmt

import Derived.Test.YbulkdducFmtMember
import Derived.Test.YbulkdducFmtMainC
import Derived.Laws.StructEq
import Derived.Stop.BytesEq
namespace Go.Proofs.YbulkdducFmt
open Go.RowKit Go.Extern.Stop Go.Stop Go.Extern
set_option linter.unusedVariables false

theorem size3 : ∀ w, (sizeOf 3).run Ybaf.prog w = .ok 1 w := fun w => by kernel_rfl
@[go_sem] theorem eqIn33 (u v u' v' : Int) (w : World) : (Op.equalIn 10000 33 (.agg #[.int .i64 u, .int .i64 v]) (.agg #[.int .i64 u', .int .i64 v'])).run Ybaf.prog w = .ok (u == u' && v == v') w := by
  have h : ∀ d, (Op.equalIn (d + 2) 33 (.agg #[.int .i64 u, .int .i64 v]) (.agg #[.int .i64 u', .int .i64 v'])).run Ybaf.prog w = .ok (u == u' && v == v') w := fun d => by
    rw [Op.equalIn]
    simp only [Sem.run_bind, run_underlying Ybaf.underlying33, Result.andThen_ok, size3, Std.Legacy.Range.forIn_eq_forIn_range', Std.Legacy.Range.size, Nat.sub_zero, Nat.add_sub_cancel, Nat.div_one]
    have p0 : ∀ a b : Int, (part 3 #[.int .i64 a, .int .i64 b] (0 * 1)).run Ybaf.prog w = .ok (.int .i64 a) w := fun a b => by simp [part, isAgg, run_underlying Ybaf.underlying3]
    have p1 : ∀ a b : Int, (part 3 #[.int .i64 a, .int .i64 b] (1 * 1)).run Ybaf.prog w = .ok (.int .i64 b) w := fun a b => by simp [part, isAgg, run_underlying Ybaf.underlying3]
    have pe : ∀ a b : Int, (Op.equalIn (d + 1) 3 (.int .i64 a) (.int .i64 b)).run Ybaf.prog w = .ok (a == b) w := fun a b => run_equalIn_int w d 3 .i64 .i64 _ _ Ybaf.underlying3
    have hr : List.range' 0 2 1 = [0, 1] := rfl
    rw [hr]
    simp only [List.forIn_cons, List.forIn_nil, Sem.run_bind, p0, pe, Result.andThen_ok]
    cases h1 : (u == u') <;> cases h2 : (v == v') <;> simp [p1, pe] <;> simpa using h2
  exact h 9998

/-- The numeral as a string. -/
def decS (u : Nat) : ByteArray := ⟨(Lib.decDigits u).toArray⟩

theorem itoa_walk (u : Nat) (w : World) (hu : u ≤ 1000000) (hT : Tab w) : Calls Ybaf.prog 10 #[.int .i64 (u : Int)] w fun e w' => e = .returned (.string (decS u)) ∧ Below w.heap.size w w' := by
  have := Ybaf.strconv_Itoa (u : Int) (by omega) (by omega) w hT
  rw [itoa_dec] at this
  exact this.mono fun e w' ⟨he, k, os, hw⟩ => ⟨he, by rw [hw]; exact Lib.below_grow _ _ (Nat.le_refl _) _ _⟩

theorem decS_size (u : Nat) (hu : u ≤ 1000000) : (decS u).size ≤ 21 := by
  show (Lib.decDigits u).toArray.size ≤ _
  have := Lib.itoa_length_le (u : Int) (by omega) (by omega)
  rw [itoa_dec] at this
  simpa using this

/-- The member's name. -/
def nameS (u : Nat) : ByteArray := (⟨#[110]⟩ : ByteArray) ++ decS u
theorem nameS_list (u : Nat) : (nameS u).data.toList = 110 :: Lib.decDigits u := by
  show ((⟨#[110]⟩ : ByteArray) ++ decS u).data.toList = _
  rw [ByteArray.data_append]
  simp [decS]

/-- The world in which two names are handed over. -/
def twoWorld (w : World) (s0 s1 : ByteArray) : World := w.alloc (.cells #[.string s0, .string s1] 9)
theorem twoWorld_below (w : World) (s0 s1 : ByteArray) : Below w.heap.size w (twoWorld w s0 s1) := (Below.refl _ _).alloc (Nat.le_refl _) _
theorem twoWorld_c0 (w : World) (s0 s1 : ByteArray) : (twoWorld w s0 s1).cell? ⟨w.heap.size, 0, none⟩ = some (.string s0) := by unfold twoWorld; go_simp
theorem twoWorld_c1 (w : World) (s0 s1 : ByteArray) : (twoWorld w s0 s1).cell? ((⟨w.heap.size, 0, none⟩ : Addr).add 1) = some (.string s1) := by unfold twoWorld; go_simp

/-- The world with a key laid. -/
def laidKey (w : World) (u v : Int) : World := w.alloc (.cells #[.int .i64 u, .int .i64 v] 33)
theorem laidKey_below (w : World) (u v : Int) : Below w.heap.size w (laidKey w u v) := (Below.refl _ _).alloc (Nat.le_refl _) _
theorem laidKey_c0 (w : World) (u v : Int) : (laidKey w u v).cell? ⟨w.heap.size, 0, none⟩ = some (.int .i64 u) := by unfold laidKey; go_simp
theorem laidKey_c1 (w : World) (u v : Int) : (laidKey w u v).cell? ⟨w.heap.size, 1, none⟩ = some (.int .i64 v) := by unfold laidKey; go_simp
theorem laidKey_size (w : World) (u v : Int) : (laidKey w u v).heap.size = w.heap.size + 1 := by unfold laidKey; simp

set_option maxRecDepth 100000 in
set_option maxHeartbeats 4000000 in
theorem named_walk (F : Interp) (W : World) (aR aS aF : Addr) (n i j : Int) (hF : F.answers W.tape) (hV : Vars W aR aS aF) (hT : Tab W) (wn : (Lit.int .u16 n).wf = true) (wi : (Lit.int .u16 i).wf = true) (wj : (Lit.int .u16 j).wf = true) :
    Calls Ybaf.prog 4 #[.int .u16 n, .int .u16 i, .int .u16 j] W fun e W' => e = .returned (.bool true) ∧ Below W.heap.size W W' := by
  obtain ⟨bn0, bn1⟩ := bounds_u16 wn
  obtain ⟨bi0, bi1⟩ := bounds_u16 wi
  obtain ⟨bj0, bj1⟩ := bounds_u16 wj
  obtain ⟨m, hm⟩ : ∃ m : Nat, n % 300 + 1 = (m : Int) := ⟨(n % 300 + 1).toNat, by omega⟩
  have hm1 : 1 ≤ m := by omega
  have hm2 : m ≤ 300 := by omega
  have hma := Int.emod_nonneg i (b := (m : Int)) (by omega)
  have hmb := Int.emod_nonneg j (b := (m : Int)) (by omega)
  have hma' := Int.emod_lt_of_pos i (b := (m : Int)) (by omega)
  have hmb' := Int.emod_lt_of_pos j (b := (m : Int)) (by omega)
  obtain ⟨a, ha⟩ : ∃ a : Nat, i % (m : Int) = (a : Int) := ⟨(i % (m : Int)).toNat, by omega⟩
  obtain ⟨b, hb⟩ : ∃ b : Nat, j % (m : Int) = (b : Int) := ⟨(j % (m : Int)).toNat, by omega⟩
  have ham : a < m := by omega
  have hbm : b < m := by omega
  have hm0 : ¬ (m : Int) = 0 := by omega
  clear hma hmb hma' hmb'
  have hi1 := itoa_walk (a + 1) W (by omega) hT
  rw [show ((a + 1 : Nat) : Int) = (a : Int) + 1 by omega] at hi1
  go_enter Ybaf.func4, Ybaf.ntmps4
  go_wp2_with (go_at_call 10; refine hi1.mono ?_)
  rintro e w1 ⟨rfl, hb1⟩
  have hi2 := itoa_walk (b + 1) w1 (by omega) (hT.on hb1)
  rw [show ((b + 1 : Nat) : Int) = (b : Int) + 1 by omega] at hi2
  have hza := decS_size (a + 1) (by omega)
  have hzb := decS_size (b + 1) (by omega)
  clear hi1
  go_wp2_with (go_at_call 10; refine hi2.mono ?_)
  rintro e w2 ⟨rfl, hb2⟩
  clear hi2
  have hbW2 : Below W.heap.size W w2 := hb1.trans (hb2.mono hb1.size)
  have hbP := parWorld_below w2 m 0 0
  have hpP := parWorld_pars w2 m 0 0
  have hbT := twoWorld_below (parWorld w2 m 0 0) (nameS (a + 1)) (nameS (b + 1))
  have hbPT := hbP.trans (hbT.mono hbP.size)
  have hpT := hpP.on hbT
  have hTT : Tab (twoWorld (parWorld w2 m 0 0) (nameS (a + 1)) (nameS (b + 1))) := (hT.on hbW2).on hbPT
  have hA := memIs_of hpT.c0 (nameS_list (a + 1)) ham hm2 hTT
  have hB := memIs_of hpT.c0 (nameS_list (b + 1)) hbm hm2 hTT
  have hsz : (parWorld w2 m 0 0).heap.size = w2.heap.size + 1 := by unfold parWorld; simp
  have ht0 := twoWorld_c0 (parWorld w2 m 0 0) (nameS (a + 1)) (nameS (b + 1))
  have ht1 := twoWorld_c1 (parWorld w2 m 0 0) (nameS (a + 1)) (nameS (b + 1))
  rw [hsz] at ht0 ht1
  by_cases hab : a = b
  · subst hab
    have hFT : F.answers (twoWorld (parWorld w2 m 0 0) (nameS (a + 1)) (nameS (a + 1))).tape := by rw [(hbW2.trans (hbPT.mono hbW2.size)).tape]; exact hF
    have hc1 := pairOf_same F w2.heap.size a _ 2 _ _ _ hFT ht0 ht1 hA hB (Nat.le_refl _)
    go_wp2_with (go_at_call 7; refine hc1.mono ?_)
    rintro e w3 ⟨⟨N1, x1, t1, rfl, hN1, hx1⟩, hb3⟩
    have hlk := laidKey_below w3 0 0
    have hlt := twoWorld_below (laidKey w3 0 0) (nameS (a + 1)) (nameS (a + 1))
    have hq1 := hlk.trans (hlt.mono hlk.size)
    have hq2 := hb3.trans (hq1.mono hb3.size)
    have hs0 := twoWorld_c0 (laidKey w3 0 0) (nameS (a + 1)) (nameS (a + 1))
    have hs1 := twoWorld_c1 (laidKey w3 0 0) (nameS (a + 1)) (nameS (a + 1))
    rw [laidKey_size] at hs0 hs1
    have hbT3 : Below W.heap.size W (twoWorld (laidKey w3 0 0) (nameS (a + 1)) (nameS (a + 1))) := (hbW2.trans (hbPT.mono hbW2.size)).trans (hq2.mono (hbW2.trans (hbPT.mono hbW2.size)).size)
    have hFT2 : F.answers (twoWorld (laidKey w3 0 0) (nameS (a + 1)) (nameS (a + 1))).tape := by rw [hbT3.tape]; exact hF
    have hc2 := pairOf_same F w2.heap.size a _ 2 _ _ _ hFT2 hs0 hs1 (hA.on hq2) (hB.on hq2) (Nat.le_refl _)
    have k0 := (hlt.cell (p := ⟨w3.heap.size, 0, none⟩) (by rw [laidKey_size]; show w3.heap.size < _; omega)).trans (laidKey_c0 w3 0 0)
    have k1 := (hlt.cell (p := ⟨w3.heap.size, 1, none⟩) (by rw [laidKey_size]; show w3.heap.size < _; omega)).trans (laidKey_c1 w3 0 0)
    clear hc1 hx1
    go_wp2_with (go_at_call 7; refine hc2.mono ?_)
    rintro e w4 ⟨⟨N2, x2, t2, rfl, hN2, hx2⟩, hb4⟩
    have hbW4 : Below W.heap.size W w4 := hbT3.trans (hb4.mono hbT3.size)
    have l0 := (hb4.cell (block_lt_of_cell k0)).trans k0
    have l1 := (hb4.cell (block_lt_of_cell k1)).trans k1
    have h34 : w3.heap.size < w4.heap.size := block_lt_of_cell l0
    have hbE : ∀ o, Below W.heap.size W (w4.alloc o) := fun o => hbW4.alloc hbW4.size o
    clear hc2 hx2 hb4 hb3 hlk hlt hq1 hq2 hs0 hs1 k0 k1 hA hB hpT hpP hbT hbP hbPT hTT ht0 ht1 hT hb1 hb2 hbT3 hbW2
    go_wp2
    go_ret
    exact ⟨rfl, hbE _⟩
  · have hc1 := pairOf_ok w2.heap.size a b _ 2 _ _ _ ht0 ht1 hA hB hab (Nat.le_refl _)
    go_wp2_with (go_at_call 7; refine hc1.mono ?_)
    rintro e w3 ⟨rfl, hb3⟩
    have hlk := laidKey_below w3 (min (a : Int) b) (max (a : Int) b)
    have hlt := twoWorld_below (laidKey w3 (min (a : Int) b) (max (a : Int) b)) (nameS (b + 1)) (nameS (a + 1))
    have hq1 := hlk.trans (hlt.mono hlk.size)
    have hq2 := hb3.trans (hq1.mono hb3.size)
    have hs0 := twoWorld_c0 (laidKey w3 (min (a : Int) b) (max (a : Int) b)) (nameS (b + 1)) (nameS (a + 1))
    have hs1 := twoWorld_c1 (laidKey w3 (min (a : Int) b) (max (a : Int) b)) (nameS (b + 1)) (nameS (a + 1))
    rw [laidKey_size] at hs0 hs1
    have hbT3 : Below W.heap.size W (twoWorld (laidKey w3 (min (a : Int) b) (max (a : Int) b)) (nameS (b + 1)) (nameS (a + 1))) := (hbW2.trans (hbPT.mono hbW2.size)).trans (hq2.mono (hbW2.trans (hbPT.mono hbW2.size)).size)
    have hc2 := pairOf_ok w2.heap.size b a _ 2 _ _ _ hs0 hs1 (hB.on hq2) (hA.on hq2) (fun e => hab e.symm) (Nat.le_refl _)
    have k0 := (hlt.cell (p := ⟨w3.heap.size, 0, none⟩) (by rw [laidKey_size]; show w3.heap.size < _; omega)).trans (laidKey_c0 w3 _ _)
    have k1 := (hlt.cell (p := ⟨w3.heap.size, 1, none⟩) (by rw [laidKey_size]; show w3.heap.size < _; omega)).trans (laidKey_c1 w3 _ _)
    clear hc1
    go_wp2_with (go_at_call 7; refine hc2.mono ?_)
    rintro e w4 ⟨rfl, hb4⟩
    have hbW4 : Below W.heap.size W w4 := hbT3.trans (hb4.mono hbT3.size)
    have l0 := (hb4.cell (block_lt_of_cell k0)).trans k0
    have l1 := (hb4.cell (block_lt_of_cell k1)).trans k1
    have h34 : w3.heap.size < w4.heap.size := block_lt_of_cell l0
    have hbE : ∀ o, Below W.heap.size W (w4.alloc o) := fun o => hbW4.alloc hbW4.size o
    clear hc2 hb4 hb3 hlk hlt hq1 hq2 hs0 hs1 k0 k1 hA hB hpT hpP hbT hbP hbPT hTT ht0 ht1 hT hb1 hb2 hbT3 hbW2
    have hab' : ¬ (a : Int) = b := by omega
    rcases Nat.lt_or_ge b a with hlt | hge
    · have hlt' : (b : Int) < a := by omega
      rw [show min (a : Int) b = b by omega] at l0
      rw [show max (a : Int) b = a by omega] at l1
      rw [show min (b : Int) a = b by omega, show max (b : Int) a = a by omega]
      go_wp2
      go_ret
      exact ⟨rfl, hbE _⟩
    · have hlt' : ¬ (b : Int) < a := by omega
      rw [show min (a : Int) b = a by omega] at l0
      rw [show max (a : Int) b = b by omega] at l1
      rw [show min (b : Int) a = a by omega, show max (b : Int) a = b by omega]
      go_wp2
      go_ret
      exact ⟨rfl, hbE _⟩

theorem bnamedProved : Rows.LawS5254BNamedToldSaid := bnamed_card (fun os st H enc => liftM named_walk os st H enc)

end Go.Proofs.YbulkdducFmt

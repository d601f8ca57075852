import Derived.Test.YbulkdducProg
import Derived.WalkKit
import Derived.WalkSpells
import Derived.WalkLawsBesides
import Derived.Laws.BitsAllLaws
namespace Go.Proofs.Ybulkdduc
open Go.RowKit

theorem bcell {W w1 : World} (hb : Below W.heap.size W w1) : (∀ b o, b < W.heap.size → w1.cell? ⟨b, o, none⟩ = W.cell? ⟨b, o, none⟩) ∧ (∀ b o, b < W.heap.size → w1.frozen? ⟨b, o, none⟩ = W.frozen? ⟨b, o, none⟩) ∧ W.heap.size ≤ w1.heap.size :=
  ⟨fun b o h => hb.cell (p := ⟨b, o, none⟩) h, fun b o h => hb.frozen (p := ⟨b, o, none⟩) h, hb.size⟩

theorem and_mask30 (n : Int) (h0 : 0 ≤ n) (h1 : n < 1000000000) : bits .and .u64 n 1073741823 = n := by
  rw [u64_and n 1073741823 h0 (by omega) (by omega) (by omega)]
  have e : n.toNat &&& (1073741823 : Int).toNat = n.toNat := by
    show n.toNat &&& (2 ^ 30 - 1) = n.toNat
    rw [Nat.and_two_pow_sub_one_eq_mod]
    omega
  rw [e]; omega

theorem and_high (n : Int) (h0 : 0 ≤ n) (h1 : n < 1000000000) : bits .and .u64 n 9223372036854775808 = 0 := by
  rw [u64_and n 9223372036854775808 h0 (by omega) (by omega) (by omega)]
  have e : n.toNat &&& (9223372036854775808 : Int).toNat = 0 := by
    show n.toNat &&& 2 ^ 63 = 0
    apply Nat.eq_of_testBit_eq
    intro i
    rw [Nat.testBit_and, Nat.testBit_two_pow, Nat.zero_testBit]
    by_cases hi : 63 = i
    · rw [Nat.testBit_lt_two_pow (x := n.toNat) (i := i) (Nat.lt_of_lt_of_le (show n.toNat < 2 ^ 30 by omega) (Nat.pow_le_pow_right (by decide) (by omega)))]
      rfl
    · simp [hi]
  rw [e]; rfl

theorem andNot_mask30 (n : Int) (h0 : 0 ≤ n) (h1 : n < 1000000000) : bits .andNot .u64 n 1073741823 = 0 := by
  rw [u64_andNot n 1073741823 h0 (by omega) (by omega) (by omega)]
  have e : n.toNat &&& (18446744073709551615 - (1073741823 : Int).toNat) = 0 := by
    show n.toNat &&& (2 ^ 30 * (2 ^ 34 - 1)) = 0
    apply Nat.eq_of_testBit_eq
    intro i
    rw [Nat.testBit_and, Nat.testBit_two_pow_mul, Nat.zero_testBit]
    by_cases hi : 30 ≤ i
    · rw [Nat.testBit_lt_two_pow (x := n.toNat) (i := i) (Nat.lt_of_lt_of_le (show n.toNat < 2 ^ 30 by omega) (Nat.pow_le_pow_right (by decide) hi))]
      rfl
    · simp [hi]
  rw [e]; rfl

theorem or_zero (n : Int) (h0 : 0 ≤ n) (h1 : n < 1000000000) : bits .or .u64 0 n = n := by
  rw [u64_or 0 n (by omega) (by omega) h0 (by omega)]
  simp
  omega

set_option maxHeartbeats 400000 in
theorem nsec_any (b o : Nat) (n : Int) (w : World) (h0 : 0 ≤ n) (h1 : n < 1000000000) (hc : w.cell? ⟨b, o, none⟩ = some (.int .u64 n)) :
    Calls Yba.prog 16 #[.pointer (some ⟨b, o, none⟩)] w fun e w' => e = .returned (.int .i32 n) ∧ w' = w := by
  have hb := and_mask30 n h0 h1
  go_enter Yba.func16, Yba.ntmps16
  go_wp2
  go_ret
  exact ⟨rfl, rfl⟩

set_option maxHeartbeats 400000 in
theorem sec_any (b o : Nat) (n s : Int) (w : World) (h0 : 0 ≤ n) (h1 : n < 1000000000) (hc : w.cell? ⟨b, o, none⟩ = some (.int .u64 n)) (hs : w.cell? ⟨b, o + 1, none⟩ = some (.int .i64 s)) :
    Calls Yba.prog 19 #[.pointer (some ⟨b, o, none⟩)] w fun e w' => e = .returned (.int .i64 s) ∧ w' = w := by
  have hb := and_high n h0 h1
  go_enter Yba.func19, Yba.ntmps19
  go_wp2
  go_ret
  exact ⟨rfl, rfl⟩

set_option maxHeartbeats 400000 in
theorem isZero_any (n s : Int) (w : World) :
    Calls Yba.prog 11 #[.agg #[.int .u64 n, .int .i64 s, .pointer none]] w fun e w' => e = .returned (.bool (n == 0 && s == 0)) ∧ Below w.heap.size w w' := by
  go_enter Yba.func11, Yba.ntmps11
  go_wp2
  all_goals go_ret
  · rename_i h
    subst h
    exact ⟨by simp, (Below.refl _ _).alloc (Nat.le_refl _) _⟩
  · rename_i h
    exact ⟨by simp [h], (Below.refl _ _).alloc (Nat.le_refl _) _⟩

set_option maxHeartbeats 400000 in
theorem addSec_any (b o : Nat) (n s d : Int) (w : World) (h0 : 0 ≤ n) (h1 : n < 1000000000) (hs0 : -1000000000000 ≤ s) (hs1 : s ≤ 1000000000000) (hd0 : -1000000000000 ≤ d) (hd1 : d ≤ 1000000000000)
    (hc : w.cell? ⟨b, o, none⟩ = some (.int .u64 n)) (hs : w.cell? ⟨b, o + 1, none⟩ = some (.int .i64 s)) (hf : w.frozen? ⟨b, o + 1, none⟩ = false) :
    Calls Yba.prog 17 #[.pointer (some ⟨b, o, none⟩), .int .i64 d] w fun e w' => e = .returned (.tuple #[]) ∧ w' = w.setCell ⟨b, o + 1, none⟩ (.int .i64 (s + d)) := by
  have hb := and_high n h0 h1
  have he : (decide (s < s + d) == decide (0 < d)) = true := by
    by_cases h : 0 < d
    · simp [h]; omega
    · simp [h]; omega
  go_enter Yba.func17, Yba.ntmps17
  go_wp2
  go_end0
  exact ⟨rfl, rfl⟩

set_option maxHeartbeats 1000000 in
theorem add_any (n s d : Int) (w : World) (h0 : 0 ≤ n) (h1 : n < 1000000000) (hs0 : -1000000000 ≤ s) (hs1 : s ≤ 1000000000) (hd0 : -1000000000000000 ≤ d) (hd1 : d ≤ 1000000000000000) :
    Calls Yba.prog 7 #[.agg #[.int .u64 n, .int .i64 s, .pointer none], .int .i64 d] w fun e w' => ∃ n' s' : Int, e = .returned (.agg #[.int .u64 n', .int .i64 s', .pointer none]) ∧ 0 ≤ n' ∧ n' < 1000000000 ∧ s' * 1000000000 + n' = s * 1000000000 + n + d ∧ Below w.heap.size w w' := by
  have hb2 := andNot_mask30 n h0 h1
  have E : Hid (d.tdiv 1000000000 * 1000000000 + d.tmod 1000000000 = d) := by
    have := Int.mul_tdiv_add_tmod d 1000000000
    show _ = _
    omega
  have hr0 : -1000000000 < d.tmod 1000000000 := by have := Int.lt_tmod_of_pos d (show (0 : Int) < 1000000000 by decide); omega
  have hr1 : d.tmod 1000000000 < 1000000000 := Int.tmod_lt_of_pos d (by decide)
  have hq0 : -1000001 ≤ d.tdiv 1000000000 := by have := E.out; omega
  have hq1 : d.tdiv 1000000000 ≤ 1000001 := by have := E.out; omega
  rcases Int.lt_or_le (n + d.tmod 1000000000) 0 with hlt | hge
  · have hb3 := or_zero (n + d.tmod 1000000000 + 1000000000) (by omega) (by omega)
    have hb4 := and_high (n + d.tmod 1000000000 + 1000000000) (by omega) (by omega)
    go_enter Yba.func7, Yba.ntmps7
    go_wp2_with (first
      | (go_at_call 16; refine (nsec_any _ _ n _ h0 h1 ?_).mono ?_; (go_simp); rintro e w' ⟨rfl, rfl⟩)
      | (go_at_call 17; refine (addSec_any _ _ (n + d.tmod 1000000000 + 1000000000) s (d.tdiv 1000000000 - 1) _ (by omega) (by omega) (by omega) (by omega) (by omega) (by omega) ?_ ?_ ?_).mono ?_; (go_simp); (go_simp); (go_simp); rintro e w' ⟨rfl, rfl⟩))
    refine bodyPost_ret (v := .agg #[.int .u64 (n + d.tmod 1000000000 + 1000000000), .int .i64 (s + (d.tdiv 1000000000 - 1)), .pointer none]) (by simp [results, Yba.results7, go_sem]) rfl ⟨_, _, rfl, by omega, by omega, by have := E.out; omega, ?_⟩
    exact ((Below.refl _ _).alloc (Nat.le_refl _) _).alloc (by simp) _
  · rcases Int.lt_or_le (n + d.tmod 1000000000) 1000000000 with hlt | hge2
    · have hb3 := or_zero (n + d.tmod 1000000000) (by omega) (by omega)
      have hb4 := and_high (n + d.tmod 1000000000) (by omega) (by omega)
      go_enter Yba.func7, Yba.ntmps7
      go_wp2_with (first
        | (go_at_call 16; refine (nsec_any _ _ n _ h0 h1 ?_).mono ?_; (go_simp); rintro e w' ⟨rfl, rfl⟩)
        | (go_at_call 17; refine (addSec_any _ _ (n + d.tmod 1000000000) s (d.tdiv 1000000000) _ (by omega) (by omega) (by omega) (by omega) (by omega) (by omega) ?_ ?_ ?_).mono ?_; (go_simp); (go_simp); (go_simp); rintro e w' ⟨rfl, rfl⟩))
      refine bodyPost_ret (v := .agg #[.int .u64 (n + d.tmod 1000000000), .int .i64 (s + d.tdiv 1000000000), .pointer none]) (by simp [results, Yba.results7, go_sem]) rfl ⟨_, _, rfl, by omega, by omega, by have := E.out; omega, ?_⟩
      exact ((Below.refl _ _).alloc (Nat.le_refl _) _).alloc (by simp) _
    · have hb3 := or_zero (n + d.tmod 1000000000 - 1000000000) (by omega) (by omega)
      have hb4 := and_high (n + d.tmod 1000000000 - 1000000000) (by omega) (by omega)
      go_enter Yba.func7, Yba.ntmps7
      go_wp2_with (first
        | (go_at_call 16; refine (nsec_any _ _ n _ h0 h1 ?_).mono ?_; (go_simp); rintro e w' ⟨rfl, rfl⟩)
        | (go_at_call 17; refine (addSec_any _ _ (n + d.tmod 1000000000 - 1000000000) s (d.tdiv 1000000000 + 1) _ (by omega) (by omega) (by omega) (by omega) (by omega) (by omega) ?_ ?_ ?_).mono ?_; (go_simp); (go_simp); (go_simp); rintro e w' ⟨rfl, rfl⟩))
      refine bodyPost_ret (v := .agg #[.int .u64 (n + d.tmod 1000000000 - 1000000000), .int .i64 (s + (d.tdiv 1000000000 + 1)), .pointer none]) (by simp [results, Yba.results7, go_sem]) rfl ⟨_, _, rfl, by omega, by omega, by have := E.out; omega, ?_⟩
      exact ((Below.refl _ _).alloc (Nat.le_refl _) _).alloc (by simp) _

/-- A time that the walk holds: nanoseconds n, seconds s, together T. -/
structure Tm (n s T : Int) : Prop where
  lo : 0 ≤ n
  hi : n < 1000000000
  tot : s * 1000000000 + n = T

theorem tm_zero : Tm 0 0 0 := ⟨by decide, by decide, by decide⟩

def early (a b : Int) : Int := if a = 0 then b else if b = 0 then a else if b < a then b else a

/-- What IsZero answers; what Before answers. Plain names, so that the walk leaves them alone. -/
def zB (n s : Int) : Bool := n == 0 && s == 0
def bfB (n s n' s' : Int) : Bool := decide (s * 1000000000 + n < s' * 1000000000 + n')

theorem zB_tm {n s T : Int} (h : Tm n s T) : zB n s = decide (T = 0) := by
  have := h.lo; have := h.hi; have := h.tot
  unfold zB
  rw [Bool.eq_iff_iff]
  simp
  omega
theorem bfB_tm {n s n' s' T U : Int} (h : Tm n s T) (k : Tm n' s' U) : bfB n s n' s' = decide (T < U) := by
  unfold bfB; rw [h.tot, k.tot]

theorem isZero_b (n s : Int) (w : World) :
    Calls Yba.prog 11 #[.agg #[.int .u64 n, .int .i64 s, .pointer none]] w fun e w' => e = .returned (.bool (zB n s)) ∧ Below w.heap.size w w' :=
  isZero_any n s w

theorem and_and_high (n n' : Int) (h0 : 0 ≤ n) (h1 : n < 1000000000) (h2 : 0 ≤ n') (h3 : n' < 1000000000) : bits .and .u64 (bits .and .u64 n n') 9223372036854775808 = 0 := by
  have e := u64_and n n' h0 (by omega) h2 (by omega)
  have hle : n.toNat &&& n'.toNat ≤ n.toNat := Nat.and_le_left
  exact and_high _ (by omega) (by omega)

set_option maxHeartbeats 1000000 in
theorem before_any (n s n' s' : Int) (w : World) (h0 : 0 ≤ n) (h1 : n < 1000000000) (h2 : 0 ≤ n') (h3 : n' < 1000000000) :
    Calls Yba.prog 8 #[.agg #[.int .u64 n, .int .i64 s, .pointer none], .agg #[.int .u64 n', .int .i64 s', .pointer none]] w fun e w' => e = .returned (.bool (decide (s * 1000000000 + n < s' * 1000000000 + n'))) ∧ Below w.heap.size w w' := by
  have g0 := and_and_high n n' h0 h1 h2 h3
  have g1 := and_high n h0 h1
  have g2 := and_high n' h2 h3
  have g3 := and_mask30 n h0 h1
  have g4 := and_mask30 n' h2 h3
  rcases Int.lt_trichotomy s s' with h | h | h
  · have e : (decide (s * 1000000000 + n < s' * 1000000000 + n')) = true := by simp; omega
    rw [e]; clear e
    go_enter Yba.func8, Yba.ntmps8
    go_wp2
    go_ret
    exact ⟨rfl, ((Below.refl _ _).alloc (Nat.le_refl _) _).alloc (by simp) _⟩
  · subst h
    have e : (decide (s * 1000000000 + n < s * 1000000000 + n')) = decide (n < n') := by
      by_cases h : n < n' <;> simp [h]
    rw [e]; clear e
    go_enter Yba.func8, Yba.ntmps8
    go_wp2
    go_ret
    exact ⟨rfl, ((Below.refl _ _).alloc (Nat.le_refl _) _).alloc (by simp) _⟩
  · have e : (decide (s * 1000000000 + n < s' * 1000000000 + n')) = false := by simp; omega
    rw [e]; clear e
    have e1 : (s == s') = false := by simp; omega
    have e2 : decide (s < s') = false := by simp; omega
    go_enter Yba.func8, Yba.ntmps8
    go_wp2
    go_ret
    exact ⟨rfl, ((Below.refl _ _).alloc (Nat.le_refl _) _).alloc (by simp) _⟩

theorem before_b (n s n' s' : Int) (w : World) (h0 : 0 ≤ n) (h1 : n < 1000000000) (h2 : 0 ≤ n') (h3 : n' < 1000000000) :
    Calls Yba.prog 8 #[.agg #[.int .u64 n, .int .i64 s, .pointer none], .agg #[.int .u64 n', .int .i64 s', .pointer none]] w fun e w' => e = .returned (.bool (bfB n s n' s')) ∧ Below w.heap.size w w' :=
  before_any n s n' s' w h0 h1 h2 h3

/-- Two times of one total are the same value. -/
theorem Tm.same {n s n' s' T : Int} (h : Tm n s T) (k : Tm n' s' T) : n = n' ∧ s = s' := by
  have := h.lo; have := h.hi; have := h.tot; have := k.lo; have := k.hi; have := k.tot
  omega

set_option maxHeartbeats 1000000 in
theorem equal_self (n s : Int) (w : World) (h0 : 0 ≤ n) (h1 : n < 1000000000) :
    Calls Yba.prog 10 #[.agg #[.int .u64 n, .int .i64 s, .pointer none], .agg #[.int .u64 n, .int .i64 s, .pointer none]] w fun e w' => e = .returned (.bool true) ∧ Below w.heap.size w w' := by
  have g0 := and_and_high n n h0 h1 h0 h1
  have g1 := and_high n h0 h1
  have g3 := and_mask30 n h0 h1
  go_enter Yba.func10, Yba.ntmps10
  go_wp2
  go_ret
  exact ⟨rfl, ((Below.refl _ _).alloc (Nat.le_refl _) _).alloc (by simp) _⟩

theorem add_tm (n s d T : Int) (w : World) (h : Tm n s T) (hT0 : -1000000000000000 ≤ T) (hT1 : T ≤ 1000000000000000) (hd0 : -1000000000000000 ≤ d) (hd1 : d ≤ 1000000000000000) :
    Calls Yba.prog 7 #[.agg #[.int .u64 n, .int .i64 s, .pointer none], .int .i64 d] w fun e w' => ∃ n' s' : Int, e = .returned (.agg #[.int .u64 n', .int .i64 s', .pointer none]) ∧ Tm n' s' (T + d) ∧ Below w.heap.size w w' := by
  have := h.lo; have := h.hi; have := h.tot
  refine (add_any n s d w h.lo h.hi (by omega) (by omega) hd0 hd1).mono ?_
  rintro e w' ⟨n', s', rfl, a, b, c, hb⟩
  exact ⟨n', s', rfl, ⟨a, b, by omega⟩, hb⟩

set_option maxHeartbeats 400000 in
theorem at_any (x : Int) (w : World) (h0 : -32768 ≤ x) (h1 : x ≤ 32767) :
    Calls Yba.prog 4 #[.int .i16 x] w fun e w' => ∃ n' s' : Int, e = .returned (.agg #[.int .u64 n', .int .i64 s', .pointer none]) ∧ Tm n' s' (x * 1000000) ∧ Below w.heap.size w w' := by
  go_enter Yba.func4, Yba.ntmps4
  go_wp2_with (go_at_call 7; refine (add_tm 0 0 (x * 1000000) 0 _ tm_zero (by omega) (by omega) (by omega) (by omega)).mono ?_; rintro e w1 ⟨n', s', rfl, ht, hb⟩; obtain ⟨hc, hf, hz⟩ := bcell hb)
  refine bodyPost_ret (v := .agg #[.int .u64 n', .int .i64 s', .pointer none]) (by simp [results, Yba.results4, go_sem, hc]) rfl ⟨n', s', rfl, by simpa using ht, ?_⟩
  exact ((((((Below.refl _ _).alloc (Nat.le_refl _) _).trans (hb.mono (by simp))).setCell (by simp) _).setCell (by simp) _).setCell (by simp) _)

theorem below_set3 {B b : Nat} {a w : World} (h : Below B a w) (hb : B ≤ b) (x y z : Value) : Below B a (((w.setCell ⟨b, 0, none⟩ x).setCell ⟨b, 1, none⟩ y).setCell ⟨b, 2, none⟩ z) :=
  ((h.setCell hb x).setCell hb y).setCell hb z
theorem bon {w W w1 : World} (h : Below w.heap.size w W) (hb : Below W.heap.size W w1) : Below w.heap.size w w1 := h.trans (hb.mono h.size)
theorem bal {w W : World} (h : Below w.heap.size w W) (o : Obj) : Below w.heap.size w (W.alloc o) := h.alloc h.size o
theorem b1 (w : World) (a : Obj) : Below w.heap.size w (w.alloc a) := bal (Below.refl _ _) a
theorem b2 (w : World) (a b : Obj) : Below w.heap.size w ((w.alloc a).alloc b) := bal (b1 w a) b
theorem b3 (w : World) (a b c : Obj) : Below w.heap.size w (((w.alloc a).alloc b).alloc c) := bal (b2 w a b) c
end Go.Proofs.Ybulkdduc

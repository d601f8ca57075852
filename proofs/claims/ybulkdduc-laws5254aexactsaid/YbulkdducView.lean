import Derived.Test.YbulkdducEarly
import Derived.Deep.RegionHeld3
namespace Go.Proofs.Ybulkdduc
open Go.RowKit

/-- The name of member i: the one byte 'a' + i. -/
def nm (i : Nat) : ByteArray := ⟨#[UInt8.ofNat (97 + i)]⟩

/-- The members of the view lie in block B. -/
structure Mems (w : World) (B k : Nat) : Prop where
  c0 : ∀ i, i < k → w.cell? ⟨B, i * 6, none⟩ = some (.string (nm i))
  c1 : ∀ i, i < k → w.cell? ⟨B, i * 6 + 1, none⟩ = some (.int .u64 0)
  c2 : ∀ i, i < k → w.cell? ⟨B, i * 6 + 2, none⟩ = some (.int .u64 0)
  c3 : ∀ i, i < k → w.cell? ⟨B, i * 6 + 3, none⟩ = some (.pointer none)
  c4 : ∀ i, i < k → w.cell? ⟨B, i * 6 + 4, none⟩ = some (.int .u16 0)
  c5 : ∀ i, i < k → w.cell? ⟨B, i * 6 + 5, none⟩ = some (.int .u64 i)
  lt : B < w.heap.size

theorem Mems.on {w w' : World} {B k : Nat} (h : Mems w B k) (hb : Below w.heap.size w w') : Mems w' B k :=
  ⟨fun i hi => (hb.cell h.lt).trans (h.c0 i hi), fun i hi => (hb.cell h.lt).trans (h.c1 i hi), fun i hi => (hb.cell h.lt).trans (h.c2 i hi), fun i hi => (hb.cell h.lt).trans (h.c3 i hi), fun i hi => (hb.cell h.lt).trans (h.c4 i hi), fun i hi => (hb.cell h.lt).trans (h.c5 i hi), Nat.lt_of_lt_of_le h.lt hb.size⟩

theorem nm_ne {i j : Nat} (hi : i ≤ 8) (hj : j ≤ 8) (h : i ≠ j) : ((nm i).toList == (nm j).toList) = false := by
  have : ∀ i : Fin 9, ∀ j : Fin 9, i ≠ j → (nm i.1 == nm j.1) = false := by decide
  rw [← beq_toListBytes]
  exact this ⟨i, by omega⟩ ⟨j, by omega⟩ (by simpa using h)
theorem nm_z {i : Nat} (hi : i ≤ 8) : ((nm i).toList == (⟨#[122]⟩ : ByteArray).toList) = false := by
  have : ∀ i : Fin 9, (nm i.1 == (⟨#[122]⟩ : ByteArray)) = false := by decide
  rw [← beq_toListBytes]
  exact this ⟨i, by omega⟩

set_option maxHeartbeats 1000000 in
theorem index_hit (B k : Nat) (name : ByteArray) (t : Nat) (w : World) (hk : k ≤ 8) (hm : Mems w B k) (ht : t < k) (hn : ((nm t).toList == name.toList) = true) (hne : ∀ i, i < t → ((nm i).toList == name.toList) = false) :
    Calls Yba.prog 25 #[.agg #[.int .u64 1, .slice (some ⟨B, 0, none⟩) k k, .slice none 0 0, .int .u64 0, .slice none 0 0], .string name] w fun e w' => e = .returned (.int .i64 t) ∧ Below w.heap.size w w' := by
  go_enter Yba.func25, Yba.ntmps25
  go_wp2
  go_loopw [10] (fun i wr => ∃ j : Nat, j ≤ t ∧ i = .int .i64 j ∧ Below w.heap.size w wr) (fun i _ => t - (intOf i).toNat)
  case atStart => exact ⟨0, Nat.zero_le _, rfl, b1 w _⟩
  case round =>
    obtain ⟨j, hj, rfl, hb⟩ := hrel
    obtain ⟨c0, c1, c2, c3, c4, c5, hlt⟩ := hm.on hb
    have d0 := c0 j (by omega)
    have d1 := c1 j (by omega)
    have d2 := c2 j (by omega)
    have d3 := c3 j (by omega)
    have d4 := c4 j (by omega)
    have d5 := c5 j (by omega)
    clear c0 c1 c2 c3 c4 c5
    have hjk : (j : Int) < k := by omega
    rcases Nat.lt_or_ge j t with hlt' | hge
    · have hx := hne j hlt'
      go_wp2
      exact ⟨⟨j + 1, by omega, by go_num, bal hb _⟩, by simp [intOf]; omega⟩
    · obtain rfl : j = t := by omega
      go_wp2
      go_ret
      exact ⟨rfl, bal hb _⟩

set_option maxHeartbeats 1000000 in
theorem index_miss (B k : Nat) (name : ByteArray) (w : World) (hk : k ≤ 8) (hm : Mems w B k) (hne : ∀ i, i < k → ((nm i).toList == name.toList) = false) :
    Calls Yba.prog 25 #[.agg #[.int .u64 1, .slice (some ⟨B, 0, none⟩) k k, .slice none 0 0, .int .u64 0, .slice none 0 0], .string name] w fun e w' => e = .returned (.int .i64 (-1)) ∧ Below w.heap.size w w' := by
  go_enter Yba.func25, Yba.ntmps25
  go_wp2
  go_loopw [10] (fun i wr => ∃ j : Nat, j ≤ k ∧ i = .int .i64 j ∧ Below w.heap.size w wr) (fun i _ => k - (intOf i).toNat)
  case atStart => exact ⟨0, Nat.zero_le _, rfl, b1 w _⟩
  case round =>
    obtain ⟨j, hj, rfl, hb⟩ := hrel
    rcases Nat.lt_or_ge j k with hlt' | hge
    · obtain ⟨c0, c1, c2, c3, c4, c5, hlt⟩ := hm.on hb
      have d0 := c0 j (by omega)
      have d1 := c1 j (by omega)
      have d2 := c2 j (by omega)
      have d3 := c3 j (by omega)
      have d4 := c4 j (by omega)
      have d5 := c5 j (by omega)
      clear c0 c1 c2 c3 c4 c5
      have hjk : (j : Int) < k := by omega
      have hx := hne j hlt'
      go_wp2
      exact ⟨⟨j + 1, by omega, by go_num, bal hb _⟩, by simp [intOf]; omega⟩
    · obtain rfl : j = k := by omega
      go_wp2
      go_ret
      exact ⟨rfl, hb⟩
/-- The six cells of member i as one value. -/
def mv (i : Nat) : Value := .agg #[.string (nm i), .int .u64 0, .int .u64 0, .pointer none, .int .u16 0, .int .u64 i]
def mz : Value := .agg #[.string ⟨#[]⟩, .int .u64 0, .int .u64 0, .pointer none, .int .u16 0, .int .u64 0]

theorem below_set6 {B b : Nat} {a w : World} (h : Below B a w) (hb : B ≤ b) (x0 x1 x2 x3 x4 x5 : Value) :
    Below B a ((((((w.setCell ⟨b, 0, none⟩ x0).setCell ⟨b, 1, none⟩ x1).setCell ⟨b, 2, none⟩ x2).setCell ⟨b, 3, none⟩ x3).setCell ⟨b, 4, none⟩ x4).setCell ⟨b, 5, none⟩ x5) :=
  (((((h.setCell hb x0).setCell hb x1).setCell hb x2).setCell hb x3).setCell hb x4).setCell hb x5

set_option maxHeartbeats 2000000 in
theorem around_hit (B k : Nat) (name : ByteArray) (t p q : Nat) (w : World) (hk : k ≤ 8) (h2 : 2 ≤ k) (hm : Mems w B k) (ht : t < k) (hn : ((nm t).toList == name.toList) = true) (hne : ∀ i, i < t → ((nm i).toList == name.toList) = false)
    (hp : ((t : Int) + k - 1).tmod k = p) (hq : ((t : Int) + 1).tmod k = q) (hpk : p < k) (hqk : q < k) :
    Calls Yba.prog 20 #[.agg #[.int .u64 1, .slice (some ⟨B, 0, none⟩) k k, .slice none 0 0, .int .u64 0, .slice none 0 0], .string name] w fun e w' => e = .returned (.tuple #[mv p, mv q, .bool true]) ∧ Below w.heap.size w w' := by
  have hk0 : k ≠ 0 := by omega
  have hp3 : ((t : Int) + k - 1) % k = p := by rw [← hp, Int.tmod_eq_emod_of_nonneg (by omega)]
  have hq3 : ((t : Int) + 1) % k = q := by rw [← hq, Int.tmod_eq_emod_of_nonneg (by omega)]
  have g1 : IntKind.i64.wrap ((t : Int) + k) = t + k := by rw [IntKind.wrap_i64]; omega
  have g2 : IntKind.i64.wrap ((t : Int) + k - 1) = t + k - 1 := by rw [IntKind.wrap_i64]; omega
  have g3 : IntKind.i64.wrap ((t : Int) + 1) = t + 1 := by rw [IntKind.wrap_i64]; omega
  have g4 : IntKind.i64.wrap (p : Int) = p := by rw [IntKind.wrap_i64]; omega
  have g5 : IntKind.i64.wrap (q : Int) = q := by rw [IntKind.wrap_i64]; omega
  have hp1 : (0 : Int) ≤ p := by omega
  have hp2 : (p : Int) < k := by omega
  have hq1 : (0 : Int) ≤ q := by omega
  have hq2 : (q : Int) < k := by omega
  go_enter Yba.func20, Yba.ntmps20
  go_wp2_with fail
  refine (index_hit B k name t _ hk ?_ ht hn hne).mono ?_
  · exact hm.on (b3 w _ _ _)
  rintro e w1 ⟨rfl, hb⟩
  have hm1 := hm.on (bon (b3 w _ _ _) hb)
  obtain ⟨hc, hf, hz⟩ := bcell hb
  go_wp2_with fail
  have hBl := hm.lt
  have n1 : ¬ w.heap.size + 1 = B := by omega
  have n2 : ¬ w.heap.size + 1 + 1 = B := by omega
  have n3 : ¬ B = w.heap.size + 1 := by omega
  have n4 : ¬ B = w.heap.size + 1 + 1 := by omega
  have n5 : ¬ w.heap.size = w.heap.size + 1 + 1 := by omega
  have n6 : ¬ w.heap.size + 1 + 1 = w.heap.size := by omega
  have s0 : w1.cell? ⟨w.heap.size, 1, none⟩ = some (.slice (some ⟨B, 0, none⟩) k k) := by rw [hc _ _ (by simp; omega)]; go_simp
  have p0 := hm1.c0 p hpk
  have p1 := hm1.c1 p hpk
  have p2 := hm1.c2 p hpk
  have p3 := hm1.c3 p hpk
  have p4 := hm1.c4 p hpk
  have p5 := hm1.c5 p hpk
  have q0 := hm1.c0 q hqk
  have q1 := hm1.c1 q hqk
  have q2 := hm1.c2 q hqk
  have q3 := hm1.c3 q hqk
  have q4 := hm1.c4 q hqk
  have q5 := hm1.c5 q hqk
  go_region_held3 (fun w' => w'.cell? ⟨w.heap.size, 1, none⟩ = some (.slice (some ⟨B, 0, none⟩) k k) ∧ w'.cell? ⟨B, p * 6, none⟩ = some (.string (nm p)) ∧ w'.cell? ⟨B, p * 6 + 1, none⟩ = some (.int .u64 0) ∧ w'.cell? ⟨B, p * 6 + 2, none⟩ = some (.int .u64 0) ∧ w'.cell? ⟨B, p * 6 + 3, none⟩ = some (.pointer none) ∧ w'.cell? ⟨B, p * 6 + 4, none⟩ = some (.int .u16 0) ∧ w'.cell? ⟨B, p * 6 + 5, none⟩ = some (.int .u64 p) ∧ w'.cell? ⟨B, q * 6, none⟩ = some (.string (nm q)) ∧ w'.cell? ⟨B, q * 6 + 1, none⟩ = some (.int .u64 0) ∧ w'.cell? ⟨B, q * 6 + 2, none⟩ = some (.int .u64 0) ∧ w'.cell? ⟨B, q * 6 + 3, none⟩ = some (.pointer none) ∧ w'.cell? ⟨B, q * 6 + 4, none⟩ = some (.int .u16 0) ∧ w'.cell? ⟨B, q * 6 + 5, none⟩ = some (.int .u64 q)) (go_keep) (fail)
  go_wp2
  refine bodyPost_ret (v := .tuple #[mv p, mv q, .bool true]) (by simp [results, Yba.results20, go_sem, hc, mv]) rfl ⟨rfl, ?_⟩
  have hbb := bon (b3 w _ _ _) hb
  exact (below_set6 (below_set6 hbb (by omega) _ _ _ _ _ _) (by omega) _ _ _ _ _ _).drew

set_option maxHeartbeats 1000000 in
theorem around_miss (B k : Nat) (name : ByteArray) (w : World) (hk : k ≤ 8) (hm : Mems w B k) (hne : ∀ i, i < k → ((nm i).toList == name.toList) = false) :
    Calls Yba.prog 20 #[.agg #[.int .u64 1, .slice (some ⟨B, 0, none⟩) k k, .slice none 0 0, .int .u64 0, .slice none 0 0], .string name] w fun e w' => e = .returned (.tuple #[mz, mz, .bool false]) ∧ Below w.heap.size w w' := by
  go_enter Yba.func20, Yba.ntmps20
  go_wp2_with fail
  refine (index_miss B k name _ hk ?_ hne).mono ?_
  · exact hm.on (b3 w _ _ _)
  rintro e w1 ⟨rfl, hb⟩
  obtain ⟨hc, hf, hz⟩ := bcell hb
  have hbb := bon (b3 w _ _ _) hb
  rcases Nat.lt_or_ge k 2 with hk2 | hk2
  · go_wp2_with fail
    refine bodyPost_ret (v := .tuple #[mz, mz, .bool false]) (by simp [results, Yba.results20, go_sem, hc, mz]) rfl ⟨rfl, ?_⟩
    exact below_set6 (below_set6 hbb (by omega) _ _ _ _ _ _) (by omega) _ _ _ _ _ _
  · go_wp2_with fail
    refine bodyPost_ret (v := .tuple #[mz, mz, .bool false]) (by simp [results, Yba.results20, go_sem, hc, mz]) rfl ⟨rfl, ?_⟩
    exact below_set6 (below_set6 hbb (by omega) _ _ _ _ _ _) (by omega) _ _ _ _ _ _

set_option maxHeartbeats 1000000 in
theorem around_lone (B : Nat) (name : ByteArray) (w : World) (hm : Mems w B 1) (hn : ((nm 0).toList == name.toList) = true) :
    Calls Yba.prog 20 #[.agg #[.int .u64 1, .slice (some ⟨B, 0, none⟩) 1 1, .slice none 0 0, .int .u64 0, .slice none 0 0], .string name] w fun e w' => e = .returned (.tuple #[mz, mz, .bool false]) ∧ Below w.heap.size w w' := by
  go_enter Yba.func20, Yba.ntmps20
  go_wp2_with fail
  refine (index_hit B 1 name 0 _ (by omega) ?_ (by omega) hn (fun i hi => by omega)).mono ?_
  · exact hm.on (b3 w _ _ _)
  rintro e w1 ⟨rfl, hb⟩
  obtain ⟨hc, hf, hz⟩ := bcell hb
  have hbb := bon (b3 w _ _ _) hb
  go_wp2_with fail
  refine bodyPost_ret (v := .tuple #[mz, mz, .bool false]) (by simp [results, Yba.results20, go_sem, hc, mz]) rfl ⟨rfl, ?_⟩
  exact below_set6 (below_set6 hbb (by omega) _ _ _ _ _ _) (by omega) _ _ _ _ _ _
end Go.Proofs.Ybulkdduc

import Derived.Test.YbulkdducTime
namespace Go.Proofs.Ybulkdduc
open Go.RowKit

set_option maxHeartbeats 1000000 in
theorem early_any (n s n' s' T U : Int) (w : World) (h : Tm n s T) (k : Tm n' s' U) :
    Calls Yba.prog 9 #[.agg #[.int .u64 n, .int .i64 s, .pointer none], .agg #[.int .u64 n', .int .i64 s', .pointer none]] w fun e w' => ∃ m r : Int, e = .returned (.agg #[.int .u64 m, .int .i64 r, .pointer none]) ∧ Tm m r (early T U) ∧ Below w.heap.size w w' := by
  have z1 := zB_tm h
  have z2 := zB_tm k
  have z3 := bfB_tm k h
  by_cases hT : T = 0
  · have e : Hid (early T U = U) := by show early T U = U; simp [early, hT]
    simp only [hT, decide_true] at z1
    clear z2 z3 hT
    go_enter Yba.func9, Yba.ntmps9
    go_wp2_with fail
    refine (isZero_b _ _ _).mono ?_; rintro e w1 ⟨rfl, hq1⟩; have hb1 := hq1; clear hq1; obtain ⟨hc1, hf1, hz1⟩ := bcell hb1; simp only [World.size_alloc] at hz1
    go_wp2_with fail
    refine bodyPost_ret (v := .agg #[.int .u64 n', .int .i64 s', .pointer none]) (by simp [results, Yba.results9, go_sem, hc1]) rfl ⟨n', s', rfl, by rw [e.out]; exact k, ?_⟩
    exact below_set3 (bon (b3 w _ _ _) hb1) (by omega) _ _ _
  · simp only [hT, decide_false] at z1
    by_cases hU : U = 0
    · have e : Hid (early T U = T) := by show early T U = T; simp [early, hT, hU]
      simp only [hU, decide_true] at z2
      clear z3 hT
      go_enter Yba.func9, Yba.ntmps9
      go_wp2_with fail
      refine (isZero_b _ _ _).mono ?_; rintro e w1 ⟨rfl, hq1⟩; have hb1 := hq1; clear hq1; obtain ⟨hc1, hf1, hz1⟩ := bcell hb1; simp only [World.size_alloc] at hz1
      go_wp2_with fail
      refine (isZero_b _ _ _).mono ?_; rintro e w2 ⟨rfl, hq2⟩; have hb2 := bon hb1 hq2; clear hq2 hb1 hc1 hf1 hz1; obtain ⟨hc2, hf2, hz2⟩ := bcell hb2; simp only [World.size_alloc] at hz2
      go_wp2_with fail
      refine bodyPost_ret (v := .agg #[.int .u64 n, .int .i64 s, .pointer none]) (by simp [results, Yba.results9, go_sem, hc2]) rfl ⟨n, s, rfl, by rw [e.out]; exact h, ?_⟩
      exact below_set3 (bon (b3 w _ _ _) hb2) (by omega) _ _ _
    · simp only [hU, decide_false] at z2
      have l1 := h.lo; have l2 := h.hi; have l3 := k.lo; have l4 := k.hi
      by_cases hlt : U < T
      · have e : Hid (early T U = U) := by show early T U = U; simp [early, hT, hU, hlt]
        simp only [hlt, decide_true] at z3
        clear hT hU
        go_enter Yba.func9, Yba.ntmps9
        go_wp2_with fail
        refine (isZero_b _ _ _).mono ?_; rintro e w1 ⟨rfl, hq1⟩; have hb1 := hq1; clear hq1; obtain ⟨hc1, hf1, hz1⟩ := bcell hb1; simp only [World.size_alloc] at hz1
        go_wp2_with fail
        refine (isZero_b _ _ _).mono ?_; rintro e w2 ⟨rfl, hq2⟩; have hb2 := bon hb1 hq2; clear hq2 hb1 hc1 hf1 hz1; obtain ⟨hc2, hf2, hz2⟩ := bcell hb2; simp only [World.size_alloc] at hz2
        go_wp2_with fail
        refine (before_b _ _ _ _ _ l3 l4 l1 l2).mono ?_; rintro e w3 ⟨rfl, hq3⟩; have hb3 := bon hb2 hq3; clear hq3 hb2 hc2 hf2 hz2; obtain ⟨hc3, hf3, hz3⟩ := bcell hb3; simp only [World.size_alloc] at hz3
        go_wp2_with fail
        refine bodyPost_ret (v := .agg #[.int .u64 n', .int .i64 s', .pointer none]) (by simp [results, Yba.results9, go_sem, hc3]) rfl ⟨n', s', rfl, by rw [e.out]; exact k, ?_⟩
        exact below_set3 (bon (b3 w _ _ _) hb3) (by omega) _ _ _
      · have e : Hid (early T U = T) := by show early T U = T; simp [early, hT, hU, hlt]
        simp only [hlt, decide_false] at z3
        clear hT hU
        go_enter Yba.func9, Yba.ntmps9
        go_wp2_with fail
        refine (isZero_b _ _ _).mono ?_; rintro e w1 ⟨rfl, hq1⟩; have hb1 := hq1; clear hq1; obtain ⟨hc1, hf1, hz1⟩ := bcell hb1; simp only [World.size_alloc] at hz1
        go_wp2_with fail
        refine (isZero_b _ _ _).mono ?_; rintro e w2 ⟨rfl, hq2⟩; have hb2 := bon hb1 hq2; clear hq2 hb1 hc1 hf1 hz1; obtain ⟨hc2, hf2, hz2⟩ := bcell hb2; simp only [World.size_alloc] at hz2
        go_wp2_with fail
        refine (before_b _ _ _ _ _ l3 l4 l1 l2).mono ?_; rintro e w3 ⟨rfl, hq3⟩; have hb3 := bon hb2 hq3; clear hq3 hb2 hc2 hf2 hz2; obtain ⟨hc3, hf3, hz3⟩ := bcell hb3; simp only [World.size_alloc] at hz3
        go_wp2_with fail
        refine bodyPost_ret (v := .agg #[.int .u64 n, .int .i64 s, .pointer none]) (by simp [results, Yba.results9, go_sem, hc3]) rfl ⟨n, s, rfl, by rw [e.out]; exact h, ?_⟩
        exact below_set3 (bon (b3 w _ _ _) hb3) (by omega) _ _ _

set_option maxHeartbeats 1000000 in
theorem earliest_any (n s n' s' T U : Int) (w : World) (h : Tm n s T) (k : Tm n' s' U) :
    Calls Yba.prog 13 #[.agg #[.int .u64 n, .int .i64 s, .pointer none], .agg #[.int .u64 n', .int .i64 s', .pointer none]] w fun e w' => ∃ m r : Int, e = .returned (.agg #[.int .u64 m, .int .i64 r, .pointer none]) ∧ Tm m r (early T U) ∧ Below w.heap.size w w' := by
  have z1 := zB_tm h
  have z2 := zB_tm k
  have z3 := bfB_tm k h
  by_cases hT : T = 0
  · have e : Hid (early T U = U) := by show early T U = U; simp [early, hT]
    simp only [hT, decide_true] at z1
    clear z2 z3 hT
    go_enter Yba.func13, Yba.ntmps13
    go_wp2_with fail
    refine (isZero_b _ _ _).mono ?_; rintro e w1 ⟨rfl, hq1⟩; have hb1 := hq1; clear hq1; obtain ⟨hc1, hf1, hz1⟩ := bcell hb1; simp only [World.size_alloc] at hz1
    go_wp2_with fail
    refine bodyPost_ret (v := .agg #[.int .u64 n', .int .i64 s', .pointer none]) (by simp [results, Yba.results13, go_sem, hc1]) rfl ⟨n', s', rfl, by rw [e.out]; exact k, ?_⟩
    exact below_set3 (bon (b3 w _ _ _) hb1) (by omega) _ _ _
  · simp only [hT, decide_false] at z1
    by_cases hU : U = 0
    · have e : Hid (early T U = T) := by show early T U = T; simp [early, hT, hU]
      simp only [hU, decide_true] at z2
      clear z3 hT
      go_enter Yba.func13, Yba.ntmps13
      go_wp2_with fail
      refine (isZero_b _ _ _).mono ?_; rintro e w1 ⟨rfl, hq1⟩; have hb1 := hq1; clear hq1; obtain ⟨hc1, hf1, hz1⟩ := bcell hb1; simp only [World.size_alloc] at hz1
      go_wp2_with fail
      refine (isZero_b _ _ _).mono ?_; rintro e w2 ⟨rfl, hq2⟩; have hb2 := bon hb1 hq2; clear hq2 hb1 hc1 hf1 hz1; obtain ⟨hc2, hf2, hz2⟩ := bcell hb2; simp only [World.size_alloc] at hz2
      go_wp2_with fail
      refine bodyPost_ret (v := .agg #[.int .u64 n, .int .i64 s, .pointer none]) (by simp [results, Yba.results13, go_sem, hc2]) rfl ⟨n, s, rfl, by rw [e.out]; exact h, ?_⟩
      exact below_set3 (bon (b3 w _ _ _) hb2) (by omega) _ _ _
    · simp only [hU, decide_false] at z2
      have l1 := h.lo; have l2 := h.hi; have l3 := k.lo; have l4 := k.hi
      by_cases hlt : U < T
      · have e : Hid (early T U = U) := by show early T U = U; simp [early, hT, hU, hlt]
        simp only [hlt, decide_true] at z3
        clear hT hU
        go_enter Yba.func13, Yba.ntmps13
        go_wp2_with fail
        refine (isZero_b _ _ _).mono ?_; rintro e w1 ⟨rfl, hq1⟩; have hb1 := hq1; clear hq1; obtain ⟨hc1, hf1, hz1⟩ := bcell hb1; simp only [World.size_alloc] at hz1
        go_wp2_with fail
        refine (isZero_b _ _ _).mono ?_; rintro e w2 ⟨rfl, hq2⟩; have hb2 := bon hb1 hq2; clear hq2 hb1 hc1 hf1 hz1; obtain ⟨hc2, hf2, hz2⟩ := bcell hb2; simp only [World.size_alloc] at hz2
        go_wp2_with fail
        refine (before_b _ _ _ _ _ l3 l4 l1 l2).mono ?_; rintro e w3 ⟨rfl, hq3⟩; have hb3 := bon hb2 hq3; clear hq3 hb2 hc2 hf2 hz2; obtain ⟨hc3, hf3, hz3⟩ := bcell hb3; simp only [World.size_alloc] at hz3
        go_wp2_with fail
        refine bodyPost_ret (v := .agg #[.int .u64 n', .int .i64 s', .pointer none]) (by simp [results, Yba.results13, go_sem, hc3]) rfl ⟨n', s', rfl, by rw [e.out]; exact k, ?_⟩
        exact below_set3 (bon (b3 w _ _ _) hb3) (by omega) _ _ _
      · have e : Hid (early T U = T) := by show early T U = T; simp [early, hT, hU, hlt]
        simp only [hlt, decide_false] at z3
        clear hT hU
        go_enter Yba.func13, Yba.ntmps13
        go_wp2_with fail
        refine (isZero_b _ _ _).mono ?_; rintro e w1 ⟨rfl, hq1⟩; have hb1 := hq1; clear hq1; obtain ⟨hc1, hf1, hz1⟩ := bcell hb1; simp only [World.size_alloc] at hz1
        go_wp2_with fail
        refine (isZero_b _ _ _).mono ?_; rintro e w2 ⟨rfl, hq2⟩; have hb2 := bon hb1 hq2; clear hq2 hb1 hc1 hf1 hz1; obtain ⟨hc2, hf2, hz2⟩ := bcell hb2; simp only [World.size_alloc] at hz2
        go_wp2_with fail
        refine (before_b _ _ _ _ _ l3 l4 l1 l2).mono ?_; rintro e w3 ⟨rfl, hq3⟩; have hb3 := bon hb2 hq3; clear hq3 hb2 hc2 hf2 hz2; obtain ⟨hc3, hf3, hz3⟩ := bcell hb3; simp only [World.size_alloc] at hz3
        go_wp2_with fail
        refine bodyPost_ret (v := .agg #[.int .u64 n, .int .i64 s, .pointer none]) (by simp [results, Yba.results13, go_sem, hc3]) rfl ⟨n, s, rfl, by rw [e.out]; exact h, ?_⟩
        exact below_set3 (bon (b3 w _ _ _) hb3) (by omega) _ _ _
end Go.Proofs.Ybulkdduc

import Derived.Test.YbulkdducProbe
import Derived.Test.YbulkdducQuiet
import Derived.Deep.QuietTactic
import Derived.BigQuiet
namespace Go.Proofs.Ybulkdduc
open Go.RowKit Go.Sort
attribute [local go_sem ↓] Go.wp_at_zero Go.wp_at_succ

/-- What nextProbe answers, in whatever world comes behind w. -/
def ProbeIs (w : World) (M : Nat) (pn : ByteArray) (pi PR : Int) : Prop :=
  ∀ w', Below w.heap.size w w' → Calls Yba.prog 14 #[.pointer (some ⟨M, 0, none⟩), .agg #[.string pn, .int .u64 0, .int .u64 0, .pointer none, .int .u16 0, .int .u64 pi]] w' fun e w'' => ∃ n s : Int, e = .returned (.agg #[.int .u64 n, .int .i64 s, .pointer none]) ∧ Tm n s PR ∧ Below w'.heap.size w' w''

/-- The two cells of a time, as plain functions that the walk leaves alone. -/
def nsOf (T : Int) : Int := T % 1000000000
def secOf (T : Int) : Int := T / 1000000000
theorem tm_of (T : Int) : Tm (nsOf T) (secOf T) T := by
  unfold nsOf secOf
  exact ⟨by omega, by omega, by omega⟩
theorem Tm.val {n s T : Int} (h : Tm n s T) : n = nsOf T ∧ s = secOf T := h.same (tm_of T)

theorem add_v (n s d T : Int) (w : World) (h : Tm n s T) (hT0 : -1000000000000000 ≤ T) (hT1 : T ≤ 1000000000000000) (hd0 : -1000000000000000 ≤ d) (hd1 : d ≤ 1000000000000000) :
    Calls Yba.prog 7 #[.agg #[.int .u64 n, .int .i64 s, .pointer none], .int .i64 d] w fun e w' => e = .returned (.agg #[.int .u64 (nsOf (T + d)), .int .i64 (secOf (T + d)), .pointer none]) ∧ Below w.heap.size w w' := by
  refine (add_tm n s d T w h hT0 hT1 hd0 hd1).mono ?_
  rintro e w' ⟨n', s', rfl, t, hb⟩
  obtain ⟨rfl, rfl⟩ := t.val
  exact ⟨rfl, hb⟩
theorem earliest_v (n s n' s' T U : Int) (w : World) (h : Tm n s T) (k : Tm n' s' U) :
    Calls Yba.prog 13 #[.agg #[.int .u64 n, .int .i64 s, .pointer none], .agg #[.int .u64 n', .int .i64 s', .pointer none]] w fun e w' => e = .returned (.agg #[.int .u64 (nsOf (early T U)), .int .i64 (secOf (early T U)), .pointer none]) ∧ Below w.heap.size w w' := by
  refine (earliest_any n s n' s' T U w h k).mono ?_
  rintro e w' ⟨n', s', rfl, t, hb⟩
  obtain ⟨rfl, rfl⟩ := t.val
  exact ⟨rfl, hb⟩
theorem early_v (n s n' s' T U : Int) (w : World) (h : Tm n s T) (k : Tm n' s' U) :
    Calls Yba.prog 9 #[.agg #[.int .u64 n, .int .i64 s, .pointer none], .agg #[.int .u64 n', .int .i64 s', .pointer none]] w fun e w' => e = .returned (.agg #[.int .u64 (nsOf (early T U)), .int .i64 (secOf (early T U)), .pointer none]) ∧ Below w.heap.size w w' := by
  refine (early_any n s n' s' T U w h k).mono ?_
  rintro e w' ⟨n', s', rfl, t, hb⟩
  obtain ⟨rfl, rfl⟩ := t.val
  exact ⟨rfl, hb⟩

theorem keepSus {W0 w' : World} {M B k : Nat} {sn : ByteArray} {hbt tmo nb sb nh sh np sp na sa : Int} {xs : ByteArray} {xi nc sc : Int} {qv : Value}  {c : Nat} {pn : ByteArray} {pi : Int} (h : Mach W0 M B k sn hbt tmo nb sb nh sh np sp na sa xs xi nc sc qv)  (hc : MBox W0 c pn pi) (hbe : Below W0.heap.size W0 w') : Below W0.heap.size W0 w' ∧ w'.cell? ⟨M, 76, none⟩ = some (.string xs) ∧ w'.cell? ⟨M, 77, none⟩ = some (.int .u64 0) ∧ w'.cell? ⟨M, 78, none⟩ = some (.int .u64 0) ∧ w'.cell? ⟨M, 79, none⟩ = some (.pointer none) ∧ w'.cell? ⟨M, 80, none⟩ = some (.int .u16 0) ∧ w'.cell? ⟨M, 81, none⟩ = some (.int .u64 xi) ∧ w'.cell? ⟨c, 0, none⟩ = some (.string pn) ∧ w'.cell? ⟨c, 1, none⟩ = some (.int .u64 0) ∧ w'.cell? ⟨c, 2, none⟩ = some (.int .u64 0) ∧ w'.cell? ⟨c, 3, none⟩ = some (.pointer none) ∧ w'.cell? ⟨c, 4, none⟩ = some (.int .u16 0) ∧ w'.cell? ⟨c, 5, none⟩ = some (.int .u64 pi) :=
  ⟨hbe, (hbe.cell h.lt).trans h.f76, (hbe.cell h.lt).trans h.f77, (hbe.cell h.lt).trans h.f78, (hbe.cell h.lt).trans h.f79, (hbe.cell h.lt).trans h.f80, (hbe.cell h.lt).trans h.f81, (hbe.cell hc.lt).trans hc.c0, (hbe.cell hc.lt).trans hc.c1, (hbe.cell hc.lt).trans hc.c2, (hbe.cell hc.lt).trans hc.c3, (hbe.cell hc.lt).trans hc.c4, (hbe.cell hc.lt).trans hc.c5⟩

theorem keepWake {W0 w' : World} {M B k : Nat} {sn : ByteArray} {hbt tmo nb sb nh sh np sp na sa : Int} {xs : ByteArray} {xi nc sc : Int} {qv : Value} {b : Nat} {n s : Int} {c : Nat} {pn : ByteArray} {pi : Int} (h : Mach W0 M B k sn hbt tmo nb sb nh sh np sp na sa xs xi nc sc qv) (hb : Box W0 b n s) (hc : MBox W0 c pn pi) (hbe : Below W0.heap.size W0 w') : Below W0.heap.size W0 w' ∧ w'.cell? ⟨M, 8, none⟩ = some (.int .i64 tmo) ∧ w'.cell? ⟨M, 48, none⟩ = some (.int .u64 nh) ∧ w'.cell? ⟨M, 49, none⟩ = some (.int .i64 sh) ∧ w'.cell? ⟨M, 50, none⟩ = some (.pointer none) ∧ w'.cell? ⟨b, 0, none⟩ = some (.int .u64 n) ∧ w'.cell? ⟨b, 1, none⟩ = some (.int .i64 s) ∧ w'.cell? ⟨b, 2, none⟩ = some (.pointer none) ∧ w'.cell? ⟨c, 0, none⟩ = some (.string pn) ∧ w'.cell? ⟨c, 1, none⟩ = some (.int .u64 0) ∧ w'.cell? ⟨c, 2, none⟩ = some (.int .u64 0) ∧ w'.cell? ⟨c, 3, none⟩ = some (.pointer none) ∧ w'.cell? ⟨c, 4, none⟩ = some (.int .u16 0) ∧ w'.cell? ⟨c, 5, none⟩ = some (.int .u64 pi) :=
  ⟨hbe, (hbe.cell h.lt).trans h.f8, (hbe.cell h.lt).trans h.f48, (hbe.cell h.lt).trans h.f49, (hbe.cell h.lt).trans h.f50, (hbe.cell hb.lt).trans hb.c0, (hbe.cell hb.lt).trans hb.c1, (hbe.cell hb.lt).trans hb.c2, (hbe.cell hc.lt).trans hc.c0, (hbe.cell hc.lt).trans hc.c1, (hbe.cell hc.lt).trans hc.c2, (hbe.cell hc.lt).trans hc.c3, (hbe.cell hc.lt).trans hc.c4, (hbe.cell hc.lt).trans hc.c5⟩

theorem keepAct {W0 w' : World} {M B k : Nat} {sn : ByteArray} {hbt tmo nb sb nh sh np sp na sa : Int} {xs : ByteArray} {xi nc sc : Int} {qv : Value} {b : Nat} {n s : Int}  (h : Mach W0 M B k sn hbt tmo nb sb nh sh np sp na sa xs xi nc sc qv) (hb : Box W0 b n s)  (hbe : Below W0.heap.size W0 w') : Below W0.heap.size W0 w' ∧ w'.cell? ⟨M, 82, none⟩ = some (.int .u64 nc) ∧ w'.cell? ⟨M, 83, none⟩ = some (.int .i64 sc) ∧ w'.cell? ⟨M, 84, none⟩ = some (.pointer none) ∧ w'.cell? ⟨b, 0, none⟩ = some (.int .u64 n) ∧ w'.cell? ⟨b, 1, none⟩ = some (.int .i64 s) ∧ w'.cell? ⟨b, 2, none⟩ = some (.pointer none) :=
  ⟨hbe, (hbe.cell h.lt).trans h.f82, (hbe.cell h.lt).trans h.f83, (hbe.cell h.lt).trans h.f84, (hbe.cell hb.lt).trans hb.c0, (hbe.cell hb.lt).trans hb.c1, (hbe.cell hb.lt).trans hb.c2⟩

set_option maxHeartbeats 2000000 in
theorem wake_none (M B k : Nat) (sn : ByteArray) (hbt tmo nb sb nh sh np sp na sa : Int) (xs : ByteArray) (xi nc sc : Int) (qv : Value) (pn qn : ByteArray) (pi qi T : Int) (w : World) (hM : Mach w M B k sn hbt tmo nb sb nh sh np sp na sa xs xi nc sc qv) (hA : AroundIs B k sn pn qn pi qi false) (tB : Tm nb sb T) :
    Calls Yba.prog 6 #[.pointer (some ⟨M, 0, none⟩)] w fun e w' => ∃ n s : Int, e = .returned (.agg #[.int .u64 n, .int .i64 s, .pointer none]) ∧ Tm n s T ∧ Below w.heap.size w w' := by
  have e0 := hM.f44
  have e1 := hM.f45
  have e2 := hM.f46
  have l1 := hM.lt
  have n3 : ¬ w.heap.size = M := by omega
  have n4 : ¬ M = w.heap.size := by omega
  go_enter Yba.func6, Yba.ntmps6
  go_wp2_with fail
  refine (ring_any M B k sn hbt tmo nb sb nh sh np sp na sa xs xi nc sc qv pn qn pi qi false _ (hM.on (b2 w _ _)) hA).mono ?_
  rintro e w1 ⟨rfl, hb1⟩
  have hq1 := bon (b2 w _ _) hb1
  have hR1 : Box w1 w.heap.size 0 0 := Box.on ⟨by go_simp, by go_simp, by go_simp, fun o => by go_simp, by simp; omega⟩ hb1
  have hT1 : Box w1 (w.heap.size + 1) nb sb := Box.on ⟨by go_simp, by go_simp, by go_simp, fun o => by go_simp, by simp⟩ hb1
  have hz1 : w.heap.size + 1 < w1.heap.size := hT1.lt
  clear e0 e1 e2 hb1
  obtain ⟨t0, t1, t2, tf, tl⟩ := id hT1
  obtain ⟨r0, r1, r2, rf, rl⟩ := id hR1
  have m1 : ¬ w.heap.size = w1.heap.size := by omega
  have m2 : ¬ w.heap.size = w1.heap.size + 1 := by omega
  have m3 : ¬ w.heap.size + 1 = w1.heap.size := by omega
  have m4 : ¬ w.heap.size + 1 = w1.heap.size + 1 := by omega
  go_wp2_with fail
  refine bodyPost_ret (v := .agg #[.int .u64 nb, .int .i64 sb, .pointer none]) (by simp only [results, Yba.results6]; go_simp) rfl ⟨_, _, rfl, tB, ?_⟩
  exact bal (bal (below_set3 hq1 (Nat.le_refl _) _ _ _) _) _

set_option maxHeartbeats 2000000 in
theorem wake_sus (M B k : Nat) (sn : ByteArray) (hbt tmo nb sb nh sh np sp na sa : Int) (nc sc : Int) (qv : Value) (pn qn : ByteArray) (pi qi T A : Int) (w : World) (hM : Mach w M B k sn hbt tmo nb sb nh sh np sp na sa pn pi nc sc qv) (hA : AroundIs B k sn pn qn pi qi true) (tB : Tm nb sb T) (tA : Tm nc sc A) :
    Calls Yba.prog 6 #[.pointer (some ⟨M, 0, none⟩)] w fun e w' => ∃ n s : Int, e = .returned (.agg #[.int .u64 n, .int .i64 s, .pointer none]) ∧ Tm n s (early T A) ∧ Below w.heap.size w w' := by
  have e0 := hM.f44
  have e1 := hM.f45
  have e2 := hM.f46
  have l1 := hM.lt
  have n3 : ¬ w.heap.size = M := by omega
  have n4 : ¬ M = w.heap.size := by omega
  go_enter Yba.func6, Yba.ntmps6
  go_wp2_with fail
  refine (ring_any M B k sn hbt tmo nb sb nh sh np sp na sa pn pi nc sc qv pn qn pi qi true _ (hM.on (b2 w _ _)) hA).mono ?_
  rintro e w1 ⟨rfl, hb1⟩
  have hq1 := bon (b2 w _ _) hb1
  have hR1 : Box w1 w.heap.size 0 0 := Box.on ⟨by go_simp, by go_simp, by go_simp, fun o => by go_simp, by simp; omega⟩ hb1
  have hT1 : Box w1 (w.heap.size + 1) nb sb := Box.on ⟨by go_simp, by go_simp, by go_simp, fun o => by go_simp, by simp⟩ hb1
  have hz1 : w.heap.size + 1 < w1.heap.size := hT1.lt
  clear e0 e1 e2 hb1
  go_wp2_with fail
  obtain ⟨W2, hW2⟩ : ∃ W2, W2 = (w1.alloc (.cells #[.string pn, .int .u64 0, .int .u64 0, .pointer none, .int .u16 0, .int .u64 pi] 36)).alloc (.cells #[.string qn, .int .u64 0, .int .u64 0, .pointer none, .int .u16 0, .int .u64 qi] 36) := ⟨_, rfl⟩
  have hb12 : Below w1.heap.size w1 W2 := by rw [hW2]; exact b2 w1 _ _
  have hB2 : Below w.heap.size w W2 := bon hq1 hb12
  have hP2 : MBox W2 w1.heap.size pn pi := by rw [hW2]; exact ⟨by go_simp, by go_simp, by go_simp, by go_simp, by go_simp, by go_simp, by simp; omega⟩
  have hT2 := hT1.on hb12
  have hR2 := hR1.on hb12
  have hM2 := hM.on hB2
  rw [← hW2]
  clear hW2 hb12 hT1 hR1 hq1
  generalize w1.heap.size = b4 at *
  have g0 := hM2.f76; have g1 := hM2.f77; have g2 := hM2.f78; have g3 := hM2.f79; have g4 := hM2.f80; have g5 := hM2.f81
  have hpe := ptr_eq 9995
  obtain ⟨p0, p1, p2, p3, p4, p5, pl⟩ := id hP2
  go_quiet (fail)
  clear hpe g0 g1 g2 g3 g4 g5 p0 p1 p2 p3 p4 p5 pl
  go_wp2_with fail
  obtain ⟨W3, hW3⟩ : ∃ W3, W3 = W2.drewN nq := ⟨_, rfl⟩
  have hb23 : RowKit.Below W2.heap.size W2 W3 := by rw [hW3]; exact below_drewN (RowKit.Below.refl _ _) _
  have hB3 := bon hB2 hb23
  have hM3 := hM2.on hb23
  have hT3 := hT2.on hb23
  have hR3 := hR2.on hb23
  have hP3 := hP2.on hb23
  rw [← hW3]
  clear hW3 hb23 hB2 hM2 hT2 hR2 hP2
  have k3 := cell_regrown hM3.f82
  have k4 := cell_regrown hM3.f83
  have k5 := cell_regrown hM3.f84
  have cE : ∀ d os, Calls Yba.prog 13 #[.agg #[.int .u64 nb, .int .i64 sb, .pointer none], .agg #[.int .u64 nc, .int .i64 sc, .pointer none]] (grow (redrawn W3 d) os) fun e w'' => e = .returned (.agg #[.int .u64 (nsOf (early T A)), .int .i64 (secOf (early T A)), .pointer none]) ∧ ∃ p : Regrown, w'' = grow (redrawn W3 p.d) p.os := fun d os => Calls.regrown_of (earliest_v nb sb nc sc T A _ tB tA)
  have k0 := cell_regrown hT3.c0
  have k1 := cell_regrown hT3.c1
  have k2 := cell_regrown hT3.c2
  refine QuietTail.region_quiet_tail_below 6 (by kernel_rfl) (by kernel_rfl) ?_
  simp only [List.take_succ_cons, List.take_zero, List.drop_succ_cons, List.drop_zero]
  repeat (quiet_step (first | (go_at_call 13; exact cE _ _)))
  refine wpQuiet_nil ?_
  intro _ hw'
  obtain ⟨⟨dq, osq⟩, hw''⟩ := hw'
  subst hw''
  have hb34 := below_regrown W3 dq osq
  generalize grow (redrawn W3 dq) osq = W4 at *
  have hB4 := bon hB3 hb34
  have hT4 := hT3.on hb34
  have hR4 := hR3.on hb34
  clear k0 k1 k2 k3 k4 k5 cE
  obtain ⟨t0, t1, t2, tf, tl⟩ := id hT4
  obtain ⟨r0, r1, r2, rf, rl⟩ := id hR4
  have m1 : ¬ w.heap.size = w.heap.size + 1 := by omega
  go_wp2_with fail
  refine bodyPost_ret (v := .agg #[.int .u64 (nsOf (early T A)), .int .i64 (secOf (early T A)), .pointer none]) (by simp only [results, Yba.results6]; go_simp) rfl ⟨_, _, rfl, tm_of _, ?_⟩
  exact below_set3 (below_set3 hB4 (by omega) _ _ _) (Nat.le_refl _) _ _ _

set_option maxHeartbeats 1000000 in
theorem wake_not (M B k : Nat) (sn : ByteArray) (hbt tmo nb sb nh sh np sp na sa : Int) (xs : ByteArray) (xi nc sc : Int) (qv : Value) (pn qn : ByteArray) (pi qi T H PR : Int) (w : World) (hM : Mach w M B k sn hbt tmo nb sb nh sh np sp na sa xs xi nc sc qv) (hA : AroundIs B k sn pn qn pi qi true) (hPr : ProbeIs w M pn pi PR) (hx : ¬ xs.toList = pn.toList) (tB : Tm nb sb T) (tH : Tm nh sh H) (bH0 : -100000000000 ≤ H) (bH1 : H ≤ 100000000000) (bt0 : 0 ≤ tmo) (bt1 : tmo ≤ 100000000000) :
    Calls Yba.prog 6 #[.pointer (some ⟨M, 0, none⟩)] w fun e w' => ∃ n s : Int, e = .returned (.agg #[.int .u64 n, .int .i64 s, .pointer none]) ∧ Tm n s (early T (early (H + tmo) PR)) ∧ Below w.heap.size w w' := by
  have e0 := hM.f44
  have e1 := hM.f45
  have e2 := hM.f46
  have l1 := hM.lt
  have n3 : ¬ w.heap.size = M := by omega
  have n4 : ¬ M = w.heap.size := by omega
  go_enter Yba.func6, Yba.ntmps6
  go_wp2_with fail
  refine (ring_any M B k sn hbt tmo nb sb nh sh np sp na sa xs xi nc sc qv pn qn pi qi true _ (hM.on (b2 w _ _)) hA).mono ?_
  rintro e w1 ⟨rfl, hb1⟩
  have hq1 := bon (b2 w _ _) hb1
  have hR1 : Box w1 w.heap.size 0 0 := Box.on ⟨by go_simp, by go_simp, by go_simp, fun o => by go_simp, by simp; omega⟩ hb1
  have hT1 : Box w1 (w.heap.size + 1) nb sb := Box.on ⟨by go_simp, by go_simp, by go_simp, fun o => by go_simp, by simp⟩ hb1
  have hz1 : w.heap.size + 1 < w1.heap.size := hT1.lt
  clear e0 e1 e2 hb1
  go_wp2_with fail
  obtain ⟨W2, hW2⟩ : ∃ W2, W2 = (w1.alloc (.cells #[.string pn, .int .u64 0, .int .u64 0, .pointer none, .int .u16 0, .int .u64 pi] 36)).alloc (.cells #[.string qn, .int .u64 0, .int .u64 0, .pointer none, .int .u16 0, .int .u64 qi] 36) := ⟨_, rfl⟩
  have hb12 : Below w1.heap.size w1 W2 := by rw [hW2]; exact b2 w1 _ _
  have hB2 : Below w.heap.size w W2 := bon hq1 hb12
  have hP2 : MBox W2 w1.heap.size pn pi := by rw [hW2]; exact ⟨by go_simp, by go_simp, by go_simp, by go_simp, by go_simp, by go_simp, by simp; omega⟩
  have hT2 := hT1.on hb12
  have hR2 := hR1.on hb12
  have hM2 := hM.on hB2
  rw [← hW2]
  clear hW2 hb12 hT1 hR1 hq1
  generalize w1.heap.size = b4 at *
  have g0 := hM2.f76; have g1 := hM2.f77; have g2 := hM2.f78; have g3 := hM2.f79; have g4 := hM2.f80; have g5 := hM2.f81
  have hpe := ptr_eq 9995
  obtain ⟨p0, p1, p2, p3, p4, p5, pl⟩ := id hP2
  go_quiet (fail)
  clear hpe g0 g1 g2 g3 g4 g5 p0 p1 p2 p3 p4 p5 pl
  go_wp2_with fail
  obtain ⟨W3, hW3⟩ : ∃ W3, W3 = W2.drewN nq := ⟨_, rfl⟩
  have hb23 : RowKit.Below W2.heap.size W2 W3 := by rw [hW3]; exact below_drewN (RowKit.Below.refl _ _) _
  have hB3 := bon hB2 hb23
  have hM3 := hM2.on hb23
  have hT3 := hT2.on hb23
  have hR3 := hR2.on hb23
  have hP3 := hP2.on hb23
  rw [← hW3]
  clear hW3 hb23 hB2 hM2 hT2 hR2 hP2
  have k3 := cell_regrown hM3.f48
  have k4 := cell_regrown hM3.f49
  have k5 := cell_regrown hM3.f50
  have k6 := cell_regrown hM3.f8
  have j0 := cell_regrown hP3.c0
  have j1 := cell_regrown hP3.c1
  have j2 := cell_regrown hP3.c2
  have j3 := cell_regrown hP3.c3
  have j4 := cell_regrown hP3.c4
  have j5 := cell_regrown hP3.c5
  have cA : ∀ d os, Calls Yba.prog 7 #[.agg #[.int .u64 nh, .int .i64 sh, .pointer none], .int .i64 tmo] (grow (redrawn W3 d) os) fun e w'' => e = .returned (.agg #[.int .u64 (nsOf (H + tmo)), .int .i64 (secOf (H + tmo)), .pointer none]) ∧ ∃ p : Regrown, w'' = grow (redrawn W3 p.d) p.os := fun d os => Calls.regrown_of (add_v nh sh tmo H _ tH (by omega) (by omega) (by omega) (by omega))
  have cP : ∀ d os, Calls Yba.prog 14 #[.pointer (some ⟨M, 0, none⟩), .agg #[.string pn, .int .u64 0, .int .u64 0, .pointer none, .int .u16 0, .int .u64 pi]] (grow (redrawn W3 d) os) fun e w'' => e = .returned (.agg #[.int .u64 (nsOf PR), .int .i64 (secOf PR), .pointer none]) ∧ ∃ p : Regrown, w'' = grow (redrawn W3 p.d) p.os := fun d os => Calls.regrown_of ((hPr _ (bon hB3 (below_regrown W3 d os))).mono (by
    rintro e w' ⟨n', s', rfl, t, hb⟩
    obtain ⟨rfl, rfl⟩ := t.val
    exact ⟨rfl, hb⟩))
  have cE : ∀ d os, Calls Yba.prog 13 #[.agg #[.int .u64 (nsOf (H + tmo)), .int .i64 (secOf (H + tmo)), .pointer none], .agg #[.int .u64 (nsOf PR), .int .i64 (secOf PR), .pointer none]] (grow (redrawn W3 d) os) fun e w'' => e = .returned (.agg #[.int .u64 (nsOf (early (H + tmo) PR)), .int .i64 (secOf (early (H + tmo) PR)), .pointer none]) ∧ ∃ p : Regrown, w'' = grow (redrawn W3 p.d) p.os := fun d os => Calls.regrown_of (earliest_v _ _ _ _ (H + tmo) PR _ (tm_of _) (tm_of _))
  have cF : ∀ d os, Calls Yba.prog 13 #[.agg #[.int .u64 nb, .int .i64 sb, .pointer none], .agg #[.int .u64 (nsOf (early (H + tmo) PR)), .int .i64 (secOf (early (H + tmo) PR)), .pointer none]] (grow (redrawn W3 d) os) fun e w'' => e = .returned (.agg #[.int .u64 (nsOf (early T (early (H + tmo) PR))), .int .i64 (secOf (early T (early (H + tmo) PR))), .pointer none]) ∧ ∃ p : Regrown, w'' = grow (redrawn W3 p.d) p.os := fun d os => Calls.regrown_of (earliest_v _ _ _ _ T (early (H + tmo) PR) _ tB (tm_of _))
  have k0 := cell_regrown hT3.c0
  have k1 := cell_regrown hT3.c1
  have k2 := cell_regrown hT3.c2
  refine QuietTail.region_quiet_tail_below 15 (by kernel_rfl) (by kernel_rfl) ?_
  simp only [List.take_succ_cons, List.take_zero, List.drop_succ_cons, List.drop_zero]
  repeat (quiet_step (first | (go_at_call 7; exact cA _ _) | (go_at_call 14; exact cP _ _) | (go_at_call_of 13 (Value.int IntKind.u64 nb); exact cF _ _) | (go_at_call 13; exact cE _ _)))
  refine wpQuiet_nil ?_
  intro _ hw'
  obtain ⟨⟨dq, osq⟩, hw''⟩ := hw'
  subst hw''
  have hb34 := below_regrown W3 dq osq
  generalize grow (redrawn W3 dq) osq = W4 at *
  have hB4 := bon hB3 hb34
  have hT4 := hT3.on hb34
  have hR4 := hR3.on hb34
  clear k0 k1 k2 k3 k4 k5 k6 j0 j1 j2 j3 j4 j5 cA cP cE cF
  obtain ⟨t0, t1, t2, tf, tl⟩ := id hT4
  obtain ⟨r0, r1, r2, rf, rl⟩ := id hR4
  have m1 : ¬ w.heap.size = w.heap.size + 1 := by omega
  go_wp2_with fail
  refine bodyPost_ret (v := .agg #[.int .u64 (nsOf (early T (early (H + tmo) PR))), .int .i64 (secOf (early T (early (H + tmo) PR))), .pointer none]) (by simp only [results, Yba.results6]; go_simp) rfl ⟨_, _, rfl, tm_of _, ?_⟩
  exact below_set3 (below_set3 hB4 (by omega) _ _ _) (Nat.le_refl _) _ _ _

end Go.Proofs.Ybulkdduc

import Derived.Test.YbulkdducQueue
namespace Go.Proofs.Ybulkdduc
open Go.RowKit
attribute [local go_sem ↓] Go.wp_at_zero Go.wp_at_succ

/-- A variable of the type time.Time, in a block of its own. -/
structure Box (w : World) (b : Nat) (n s : Int) : Prop where
  c0 : w.cell? ⟨b, 0, none⟩ = some (.int .u64 n)
  c1 : w.cell? ⟨b, 1, none⟩ = some (.int .i64 s)
  c2 : w.cell? ⟨b, 2, none⟩ = some (.pointer none)
  fr : ∀ o, w.frozen? ⟨b, o, none⟩ = false
  lt : b < w.heap.size

theorem Box.on {w w' : World} {b : Nat} {n s : Int} (h : Box w b n s) (hb : Below w.heap.size w w') : Box w' b n s :=
  ⟨(hb.cell h.lt).trans h.c0, (hb.cell h.lt).trans h.c1, (hb.cell h.lt).trans h.c2, fun o => (hb.frozen (p := ⟨b, o, none⟩) h.lt).trans (h.fr o), Nat.lt_of_lt_of_le h.lt hb.size⟩

theorem Box.set {w : World} {b : Nat} {n s : Int} (h : Box w b n s) (n' s' : Int) : Box (((w.setCell ⟨b, 0, none⟩ (.int .u64 n')).setCell ⟨b, 1, none⟩ (.int .i64 s')).setCell ⟨b, 2, none⟩ (.pointer none)) b n' s' := by
  obtain ⟨h0, h1, h2, hf, hl⟩ := h
  refine ⟨by go_simp, by go_simp, by go_simp, fun o => ?_, by simp [World.size_setCell, hl]⟩
  have := hf o
  go_simp
theorem Box.other {w : World} {b c : Nat} {n s : Int} (h : Box w b n s) (hne : c ≠ b) (x y z : Value) : Box (((w.setCell ⟨c, 0, none⟩ x).setCell ⟨c, 1, none⟩ y).setCell ⟨c, 2, none⟩ z) b n s := by
  obtain ⟨h0, h1, h2, hf, hl⟩ := h
  have e1 : ∀ o : Nat, (⟨c, o, none⟩ : Addr) ≠ ⟨b, 0, none⟩ := fun o e => hne (congrArg Addr.block e)
  have e2 : ∀ o : Nat, (⟨c, o, none⟩ : Addr) ≠ ⟨b, 1, none⟩ := fun o e => hne (congrArg Addr.block e)
  have e3 : ∀ o : Nat, (⟨c, o, none⟩ : Addr) ≠ ⟨b, 2, none⟩ := fun o e => hne (congrArg Addr.block e)
  refine ⟨?_, ?_, ?_, fun o => ?_, by simp [World.size_setCell, hl]⟩
  · rw [World.cell?_setCell_other (h := e1 2), World.cell?_setCell_other (h := e1 1), World.cell?_setCell_other (h := e1 0)]; exact h0
  · rw [World.cell?_setCell_other (h := e2 2), World.cell?_setCell_other (h := e2 1), World.cell?_setCell_other (h := e2 0)]; exact h1
  · rw [World.cell?_setCell_other (h := e3 2), World.cell?_setCell_other (h := e3 1), World.cell?_setCell_other (h := e3 0)]; exact h2
  · have := hf o
    go_simp

/-- A member's value in a block of its own. -/
structure MBox (w : World) (b : Nat) (mn : ByteArray) (mi : Int) : Prop where
  c0 : w.cell? ⟨b, 0, none⟩ = some (.string mn)
  c1 : w.cell? ⟨b, 1, none⟩ = some (.int .u64 0)
  c2 : w.cell? ⟨b, 2, none⟩ = some (.int .u64 0)
  c3 : w.cell? ⟨b, 3, none⟩ = some (.pointer none)
  c4 : w.cell? ⟨b, 4, none⟩ = some (.int .u16 0)
  c5 : w.cell? ⟨b, 5, none⟩ = some (.int .u64 mi)
  lt : b < w.heap.size

theorem MBox.on {w w' : World} {b : Nat} {mn : ByteArray} {mi : Int} (h : MBox w b mn mi) (hb : Below w.heap.size w w') : MBox w' b mn mi :=
  ⟨(hb.cell h.lt).trans h.c0, (hb.cell h.lt).trans h.c1, (hb.cell h.lt).trans h.c2, (hb.cell h.lt).trans h.c3, (hb.cell h.lt).trans h.c4, (hb.cell h.lt).trans h.c5, Nat.lt_of_lt_of_le h.lt hb.size⟩
theorem MBox.keep {W0 w' : World} {b : Nat} {mn : ByteArray} {mi : Int} (h : MBox W0 b mn mi) (hb : Below W0.heap.size W0 w') : Below W0.heap.size W0 w' ∧ w'.cell? ⟨b, 0, none⟩ = some (.string mn) ∧ w'.cell? ⟨b, 1, none⟩ = some (.int .u64 0) ∧ w'.cell? ⟨b, 2, none⟩ = some (.int .u64 0) ∧ w'.cell? ⟨b, 3, none⟩ = some (.pointer none) ∧ w'.cell? ⟨b, 4, none⟩ = some (.int .u16 0) ∧ w'.cell? ⟨b, 5, none⟩ = some (.int .u64 mi) :=
  ⟨hb, (hb.cell h.lt).trans h.c0, (hb.cell h.lt).trans h.c1, (hb.cell h.lt).trans h.c2, (hb.cell h.lt).trans h.c3, (hb.cell h.lt).trans h.c4, (hb.cell h.lt).trans h.c5⟩

theorem around0 (B k : Nat) (hk : k ≤ 8) (h2 : 2 ≤ k) : AroundIs B k (nm 0) (nm (k - 1)) (nm 1) ((k - 1 : Nat) : Int) 1 true := by
  intro w hm
  have e1 : ((0 : Nat) : Int) + k - 1 = ((k - 1 : Nat) : Int) := by omega
  refine (around_hit B k (nm 0) 0 (k - 1) 1 w hk h2 hm (by omega) (by simp) (fun i hi => by omega) ?_ ?_ (by omega) (by omega)).mono ?_
  · rw [e1, Int.tmod_eq_emod_of_nonneg (by omega)]; exact Int.emod_eq_of_lt (by omega) (by omega)
  · rw [Int.tmod_eq_emod_of_nonneg (by omega)]; exact Int.emod_eq_of_lt (by omega) (by omega)
  · rintro e w' ⟨rfl, hb⟩
    exact ⟨rfl, hb⟩
theorem Mach.kHeard {W0 w' : World} {M B k : Nat} {sn : ByteArray} {hbt tmo nb sb nh sh np sp na sa : Int} {xs : ByteArray} {xi nc sc : Int} {qv : Value} (h : Mach W0 M B k sn hbt tmo nb sb nh sh np sp na sa xs xi nc sc qv) (hb : Below W0.heap.size W0 w') : Below W0.heap.size W0 w' ∧ w'.cell? ⟨M, 7, none⟩ = some (.int .i64 hbt) ∧ w'.cell? ⟨M, 8, none⟩ = some (.int .i64 tmo) ∧ w'.cell? ⟨M, 48, none⟩ = some (.int .u64 nh) ∧ w'.cell? ⟨M, 49, none⟩ = some (.int .i64 sh) ∧ w'.cell? ⟨M, 50, none⟩ = some (.pointer none) :=
  ⟨hb, (hb.cell h.lt).trans h.f7, (hb.cell h.lt).trans h.f8, (hb.cell h.lt).trans h.f48, (hb.cell h.lt).trans h.f49, (hb.cell h.lt).trans h.f50⟩

theorem keep8 {W0 w' : World} {M B k : Nat} {sn : ByteArray} {hbt tmo nb sb nh sh np sp na sa : Int} {xs : ByteArray} {xi nc sc : Int} {qv : Value} {b : Nat} {n s : Int} (h : Mach W0 M B k sn hbt tmo nb sb nh sh np sp na sa xs xi nc sc qv) (k : Box W0 b n s) (hb : Below W0.heap.size W0 w') : Below W0.heap.size W0 w' ∧ w'.cell? ⟨M, 58, none⟩ = some (.int .u64 np) ∧ w'.cell? ⟨M, 59, none⟩ = some (.int .i64 sp) ∧ w'.cell? ⟨M, 60, none⟩ = some (.pointer none) ∧ w'.cell? ⟨b, 0, none⟩ = some (.int .u64 n) ∧ w'.cell? ⟨b, 1, none⟩ = some (.int .i64 s) ∧ w'.cell? ⟨b, 2, none⟩ = some (.pointer none) :=
  ⟨hb, (hb.cell h.lt).trans h.f58, (hb.cell h.lt).trans h.f59, (hb.cell h.lt).trans h.f60, (hb.cell k.lt).trans k.c0, (hb.cell k.lt).trans k.c1, (hb.cell k.lt).trans k.c2⟩

theorem keep10 {W0 w' : World} {M B k : Nat} {sn : ByteArray} {hbt tmo nb sb nh sh np sp na sa : Int} {xs : ByteArray} {xi nc sc : Int} {qv : Value} {b : Nat} {n s : Int} (h : Mach W0 M B k sn hbt tmo nb sb nh sh np sp na sa xs xi nc sc qv) (k : Box W0 b n s) (hb : Below W0.heap.size W0 w') : Below W0.heap.size W0 w' ∧ w'.cell? ⟨M, 61, none⟩ = some (.int .u64 na) ∧ w'.cell? ⟨M, 62, none⟩ = some (.int .i64 sa) ∧ w'.cell? ⟨M, 63, none⟩ = some (.pointer none) ∧ w'.cell? ⟨b, 0, none⟩ = some (.int .u64 n) ∧ w'.cell? ⟨b, 1, none⟩ = some (.int .i64 s) ∧ w'.cell? ⟨b, 2, none⟩ = some (.pointer none) :=
  ⟨hb, (hb.cell h.lt).trans h.f61, (hb.cell h.lt).trans h.f62, (hb.cell h.lt).trans h.f63, (hb.cell k.lt).trans k.c0, (hb.cell k.lt).trans k.c1, (hb.cell k.lt).trans k.c2⟩


set_option maxHeartbeats 2000000 in
theorem probe_lead (M B k : Nat) (sn : ByteArray) (hbt tmo nb sb nh sh np sp na sa : Int) (xs : ByteArray) (xi nc sc : Int) (qv : Value) (w : World) (hM : Mach w M B k sn hbt tmo nb sb nh sh np sp na sa xs xi nc sc qv) (hk : k ≤ 8) (h2 : 2 ≤ k) :
    Calls Yba.prog 14 #[.pointer (some ⟨M, 0, none⟩), .agg #[.string (nm 0), .int .u64 0, .int .u64 0, .pointer none, .int .u16 0, .int .u64 0]] w fun e w' => e = .returned (.agg #[.int .u64 0, .int .i64 0, .pointer none]) ∧ Below w.heap.size w w' := by
  have hpe := ptr_eq 9995
  go_enter Yba.func14, Yba.ntmps14
  go_wp2_with fail
  obtain ⟨W0, hW0⟩ : ∃ W0, W0 = (w.alloc (.cells #[.string (nm 0), .int .u64 0, .int .u64 0, .pointer none, .int .u16 0, .int .u64 0] 36)).alloc (.cells #[.int .u64 0, .int .i64 0, .pointer none] 40) := ⟨_, rfl⟩
  have hB0 : Below w.heap.size w W0 := by rw [hW0]; exact b2 w _ _
  have hr0 : w.heap.size < W0.heap.size := by rw [hW0]; simp; omega
  have hr1 : w.heap.size + 1 < W0.heap.size := by rw [hW0]; simp
  have hP0 : MBox W0 w.heap.size (nm 0) 0 := by rw [hW0]; exact ⟨by go_simp, by go_simp, by go_simp, by go_simp, by go_simp, by go_simp, by simp; omega⟩
  have hR0 : Box W0 (w.heap.size + 1) 0 0 := by rw [hW0]; exact ⟨by go_simp, by go_simp, by go_simp, fun o => by go_simp, by simp⟩
  have hM0 := hM.on hB0
  rw [← hW0]
  clear hW0
  obtain ⟨y0, y1, y2, y3, y4, y5, yl⟩ := id hP0
  first
    | go_region_with (go_at_call 21; refine (leader_any M B k sn hbt tmo nb sb nh sh np sp na sa xs xi nc sc qv _ ?_ (by omega) hk).mono ?_; (exact hM0.on (by first | exact Below.refl _ _ | exact (Below.refl _ _).drew)); rintro e w1 ⟨rfl, hb1⟩; have hq1 := undrew hb1; obtain ⟨x0, x1, x2, x3, x4, x5, xl⟩ := hP0.on hq1)
    | fail
  all_goals
    obtain ⟨r0, r1, r2, rf, rl⟩ := hR0.on hq1
    go_wp2
    refine bodyPost_ret (v := .agg #[.int .u64 0, .int .i64 0, .pointer none]) (by simp [results, Yba.results14, go_sem, r0, r1, r2]) rfl ⟨rfl, ?_⟩
    exact below_set3 (bon hB0 hq1) (by omega) _ _ _

set_option maxHeartbeats 2000000 in
theorem probe_after (M B k : Nat) (sn : ByteArray) (hbt tmo nb sb nh sh np sp na sa : Int) (xs : ByteArray) (xi nc sc : Int) (qv : Value) (w : World) (hM : Mach w M B k sn hbt tmo nb sb nh sh np sp na sa xs xi nc sc qv) (hk : k ≤ 8) (h2 : 2 ≤ k) :
    Calls Yba.prog 14 #[.pointer (some ⟨M, 0, none⟩), .agg #[.string (nm 1), .int .u64 0, .int .u64 0, .pointer none, .int .u16 0, .int .u64 1]] w fun e w' => e = .returned (.agg #[.int .u64 0, .int .i64 0, .pointer none]) ∧ Below w.heap.size w w' := by
  have hne : ¬ (nm 1).toList = (nm 0).toList := by have := nm_ne (i := 1) (j := 0) (by omega) (by omega) (by omega); simpa using this
  have hpe := ptr_eq 9995
  go_enter Yba.func14, Yba.ntmps14
  go_wp2_with fail
  obtain ⟨W0, hW0⟩ : ∃ W0, W0 = (w.alloc (.cells #[.string (nm 1), .int .u64 0, .int .u64 0, .pointer none, .int .u16 0, .int .u64 1] 36)).alloc (.cells #[.int .u64 0, .int .i64 0, .pointer none] 40) := ⟨_, rfl⟩
  have hB0 : Below w.heap.size w W0 := by rw [hW0]; exact b2 w _ _
  have hr0 : w.heap.size < W0.heap.size := by rw [hW0]; simp; omega
  have hr1 : w.heap.size + 1 < W0.heap.size := by rw [hW0]; simp
  have hP0 : MBox W0 w.heap.size (nm 1) 1 := by rw [hW0]; exact ⟨by go_simp, by go_simp, by go_simp, by go_simp, by go_simp, by go_simp, by simp; omega⟩
  have hR0 : Box W0 (w.heap.size + 1) 0 0 := by rw [hW0]; exact ⟨by go_simp, by go_simp, by go_simp, fun o => by go_simp, by simp⟩
  have hM0 := hM.on hB0
  rw [← hW0]
  clear hW0
  go_region_held3 (fun w' => Below W0.heap.size W0 w' ∧ w'.cell? ⟨w.heap.size, 0, none⟩ = some (.string (nm 1)) ∧ w'.cell? ⟨w.heap.size, 1, none⟩ = some (.int .u64 0) ∧ w'.cell? ⟨w.heap.size, 2, none⟩ = some (.int .u64 0) ∧ w'.cell? ⟨w.heap.size, 3, none⟩ = some (.pointer none) ∧ w'.cell? ⟨w.heap.size, 4, none⟩ = some (.int .u16 0) ∧ w'.cell? ⟨w.heap.size, 5, none⟩ = some (.int .u64 1)) ((go_split_ands; refine MBox.keep hP0 ?_; (repeat (first | with_reducible exact Below.refl _ _ | with_reducible assumption | with_reducible refine Below.drew ?_ | with_reducible refine bal ?_ _ | (with_reducible refine Below.setCell ?_ ?hside _; (case hside => first | omega | (dsimp only; omega) | (simp; omega))))))) ((first | (go_at_call 21; refine (leader_any M B k sn hbt tmo nb sb nh sh np sp na sa xs xi nc sc qv _ ?_ (by omega) hk).mono ?_; (go_split_ands; exact hM0.on (by assumption)); rintro e w1 ⟨rfl, hb1⟩; go_split_ands; have hq1 := bon (by assumption) hb1) | (go_at_call 22; refine (afterLead_any M B k sn hbt tmo nb sb nh sh np sp na sa xs xi nc sc qv _ _ _ _ _ _ ?_ (by omega) hk (around0 B k hk h2)).mono ?_; (go_split_ands; exact hM0.on (by assumption)); rintro e w2 ⟨rfl, hb2⟩; go_split_ands; have hq2 := bon (by assumption) hb2)))

  obtain ⟨r0, r1, r2, rf, rl⟩ := hR0.on hq2
  go_wp2
  refine bodyPost_ret (v := .agg #[.int .u64 0, .int .i64 0, .pointer none]) (by simp [results, Yba.results14, go_sem, r0, r1, r2]) rfl ⟨rfl, ?_⟩
  exact below_set3 (bon hB0 hq2) (by omega) _ _ _


set_option maxHeartbeats 2000000 in
theorem probe_queued (M B k Q : Nat) (sn : ByteArray) (hbt tmo nb sb nh sh np sp na sa : Int) (xs : ByteArray) (xi nc sc : Int) (p : Nat) (w : World) (hM : Mach w M B k sn hbt tmo nb sb nh sh np sp na sa xs xi nc sc (.slice (some ⟨Q, 0, none⟩) 1 1)) (hk : k ≤ 8) (h2 : 2 ≤ k) (hp : 2 ≤ p) (hpk : p < k) (hQ : Queue1 w Q (nm p) p) :
    Calls Yba.prog 14 #[.pointer (some ⟨M, 0, none⟩), .agg #[.string (nm p), .int .u64 0, .int .u64 0, .pointer none, .int .u16 0, .int .u64 p]] w fun e w' => e = .returned (.agg #[.int .u64 0, .int .i64 0, .pointer none]) ∧ Below w.heap.size w w' := by
  have hne : ¬ (nm p).toList = (nm 0).toList := by have := nm_ne (i := p) (j := 0) (by omega) (by omega) (by omega); simpa using this
  have hne1 : ¬ (nm p).toList = (nm 1).toList := by have := nm_ne (i := p) (j := 1) (by omega) (by omega) (by omega); simpa using this
  have hpe := ptr_eq 9995
  go_enter Yba.func14, Yba.ntmps14
  go_wp2_with fail
  obtain ⟨W0, hW0⟩ : ∃ W0, W0 = (w.alloc (.cells #[.string (nm p), .int .u64 0, .int .u64 0, .pointer none, .int .u16 0, .int .u64 p] 36)).alloc (.cells #[.int .u64 0, .int .i64 0, .pointer none] 40) := ⟨_, rfl⟩
  have hB0 : Below w.heap.size w W0 := by rw [hW0]; exact b2 w _ _
  have hr0 : w.heap.size < W0.heap.size := by rw [hW0]; simp; omega
  have hr1 : w.heap.size + 1 < W0.heap.size := by rw [hW0]; simp
  have hP0 : MBox W0 w.heap.size (nm p) p := by rw [hW0]; exact ⟨by go_simp, by go_simp, by go_simp, by go_simp, by go_simp, by go_simp, by simp; omega⟩
  have hR0 : Box W0 (w.heap.size + 1) 0 0 := by rw [hW0]; exact ⟨by go_simp, by go_simp, by go_simp, fun o => by go_simp, by simp⟩
  have hM0 := hM.on hB0
  rw [← hW0]
  clear hW0
  go_region_held3 (fun w' => Below W0.heap.size W0 w' ∧ w'.cell? ⟨w.heap.size, 0, none⟩ = some (.string (nm p)) ∧ w'.cell? ⟨w.heap.size, 1, none⟩ = some (.int .u64 0) ∧ w'.cell? ⟨w.heap.size, 2, none⟩ = some (.int .u64 0) ∧ w'.cell? ⟨w.heap.size, 3, none⟩ = some (.pointer none) ∧ w'.cell? ⟨w.heap.size, 4, none⟩ = some (.int .u16 0) ∧ w'.cell? ⟨w.heap.size, 5, none⟩ = some (.int .u64 p)) ((go_split_ands; refine MBox.keep hP0 ?_; (repeat (first | with_reducible exact Below.refl _ _ | with_reducible assumption | with_reducible refine Below.drew ?_ | with_reducible refine bal ?_ _ | (with_reducible refine Below.setCell ?_ ?hside _; (case hside => first | omega | (dsimp only; omega) | (simp; omega))))))) ((first | (go_at_call 21; refine (leader_any M B k sn hbt tmo nb sb nh sh np sp na sa xs xi nc sc (.slice (some ⟨Q, 0, none⟩) 1 1) _ ?_ (by omega) hk).mono ?_; (go_split_ands; exact hM0.on (by assumption)); rintro e w1 ⟨rfl, hb1⟩; go_split_ands; have hq1 := bon (by assumption) hb1) | (go_at_call 22; refine (afterLead_any M B k sn hbt tmo nb sb nh sh np sp na sa xs xi nc sc (.slice (some ⟨Q, 0, none⟩) 1 1) _ _ _ _ _ _ ?_ (by omega) hk (around0 B k hk h2)).mono ?_; (go_split_ands; exact hM0.on (by assumption)); rintro e w2 ⟨rfl, hb2⟩; go_split_ands; have hq2 := bon (by assumption) hb2)))

  have hM2 := hM0.on hq2
  have c134 := hM2.f134
  obtain ⟨x0, x1, x2, x3, x4, x5, xl⟩ := hP0.on hq2
  go_wp2_with fail
  refine (queued_one M B k Q sn hbt tmo nb sb nh sh np sp na sa xs xi nc sc (nm p) p _ hM2 (hQ.on (bon hB0 hq2))).mono ?_
  rintro e w3 ⟨rfl, hb3⟩
  have hq3 := bon hq2 hb3
  obtain ⟨r0, r1, r2, rf, rl⟩ := hR0.on hq3
  go_wp2
  refine bodyPost_ret (v := .agg #[.int .u64 0, .int .i64 0, .pointer none]) (by simp [results, Yba.results14, go_sem, r0, r1, r2]) rfl ⟨rfl, ?_⟩
  exact below_set3 (bon hB0 hq3) (by omega) _ _ _


/-- What nextProbe comes to, where it probes. -/
def probeAt (H P A tmo hbt : Int) : Int :=
  let first := H + (if tmo - 499999998 < 2 * hbt then 2 * hbt else tmo - 499999998)
  let at0 := if P < first then first else P + 166666666
  if at0 < A then A else at0

set_option maxHeartbeats 1000000 in
theorem probe_go (M B k : Nat) (sn : ByteArray) (hbt tmo nb sb nh sh np sp na sa : Int) (xs : ByteArray) (xi nc sc : Int) (p : Nat) (H P A : Int) (w : World) (hM : Mach w M B k sn hbt tmo nb sb nh sh np sp na sa xs xi nc sc (.slice none 0 0)) (hk : k ≤ 8) (h2 : 2 ≤ k) (hp : 2 ≤ p) (hpk : p < k)
    (tH : Tm nh sh H) (tP : Tm np sp P) (tA : Tm na sa A) (bH0 : -100000000000 ≤ H) (bH1 : H ≤ 100000000000) (bP0 : -100000000000 ≤ P) (bP1 : P ≤ 100000000000) (bt0 : 0 ≤ tmo) (bt1 : tmo ≤ 100000000000) (bh0 : 0 ≤ hbt) (bh1 : hbt ≤ 100000000000) :
    Calls Yba.prog 14 #[.pointer (some ⟨M, 0, none⟩), .agg #[.string (nm p), .int .u64 0, .int .u64 0, .pointer none, .int .u16 0, .int .u64 p]] w fun e w' => ∃ n s : Int, e = .returned (.agg #[.int .u64 n, .int .i64 s, .pointer none]) ∧ Tm n s (probeAt H P A tmo hbt) ∧ Below w.heap.size w w' := by
  have hne : ¬ (nm p).toList = (nm 0).toList := by have := nm_ne (i := p) (j := 0) (by omega) (by omega) (by omega); simpa using this
  have hne1 : ¬ (nm p).toList = (nm 1).toList := by have := nm_ne (i := p) (j := 1) (by omega) (by omega) (by omega); simpa using this
  have hpe := ptr_eq 9995
  go_enter Yba.func14, Yba.ntmps14
  go_wp2_with fail
  obtain ⟨W0, hW0⟩ : ∃ W0, W0 = (w.alloc (.cells #[.string (nm p), .int .u64 0, .int .u64 0, .pointer none, .int .u16 0, .int .u64 p] 36)).alloc (.cells #[.int .u64 0, .int .i64 0, .pointer none] 40) := ⟨_, rfl⟩
  have hB0 : Below w.heap.size w W0 := by rw [hW0]; exact b2 w _ _
  have hr0 : w.heap.size < W0.heap.size := by rw [hW0]; simp; omega
  have hr1 : w.heap.size + 1 < W0.heap.size := by rw [hW0]; simp
  have hP0 : MBox W0 w.heap.size (nm p) p := by rw [hW0]; exact ⟨by go_simp, by go_simp, by go_simp, by go_simp, by go_simp, by go_simp, by simp; omega⟩
  have hR0 : Box W0 (w.heap.size + 1) 0 0 := by rw [hW0]; exact ⟨by go_simp, by go_simp, by go_simp, fun o => by go_simp, by simp⟩
  have hM0 := hM.on hB0
  rw [← hW0]
  clear hW0
  go_region_held3 (fun w' => Below W0.heap.size W0 w' ∧ w'.cell? ⟨w.heap.size, 0, none⟩ = some (.string (nm p)) ∧ w'.cell? ⟨w.heap.size, 1, none⟩ = some (.int .u64 0) ∧ w'.cell? ⟨w.heap.size, 2, none⟩ = some (.int .u64 0) ∧ w'.cell? ⟨w.heap.size, 3, none⟩ = some (.pointer none) ∧ w'.cell? ⟨w.heap.size, 4, none⟩ = some (.int .u16 0) ∧ w'.cell? ⟨w.heap.size, 5, none⟩ = some (.int .u64 p)) ((go_split_ands; refine MBox.keep hP0 ?_; (repeat (first | with_reducible exact Below.refl _ _ | with_reducible assumption | with_reducible refine Below.drew ?_ | with_reducible refine bal ?_ _ | (with_reducible refine Below.setCell ?_ ?hside _; (case hside => first | omega | (dsimp only; omega) | (simp; omega))))))) ((first | (go_at_call 21; refine (leader_any M B k sn hbt tmo nb sb nh sh np sp na sa xs xi nc sc (.slice none 0 0) _ ?_ (by omega) hk).mono ?_; (go_split_ands; exact hM0.on (by assumption)); rintro e w1 ⟨rfl, hb1⟩; go_split_ands; have hq1 := bon (by assumption) hb1) | (go_at_call 22; refine (afterLead_any M B k sn hbt tmo nb sb nh sh np sp na sa xs xi nc sc (.slice none 0 0) _ _ _ _ _ _ ?_ (by omega) hk (around0 B k hk h2)).mono ?_; (go_split_ands; exact hM0.on (by assumption)); rintro e w2 ⟨rfl, hb2⟩; go_split_ands; have hq2 := bon (by assumption) hb2)))

  have hM2 := hM0.on hq2
  have c134 := hM2.f134
  obtain ⟨x0, x1, x2, x3, x4, x5, xl⟩ := hP0.on hq2
  go_wp2_with fail
  refine (queued_none M B k sn hbt tmo nb sb nh sh np sp na sa xs xi nc sc (nm p) p _ hM2).mono ?_
  rintro e w3 ⟨rfl, hb3⟩
  clear x0 x1 x2 x3 x4 x5 xl c134
  have hq3 := bon hq2 hb3
  have hM3 := hM0.on hq3
  have y0 := hM3.f58
  have y1 := hM3.f59
  have y2 := hM3.f60
  go_wp2_with fail
  refine (add_tm np sp 166666666 P _ tP (by omega) (by omega) (by omega) (by omega)).mono ?_
  rintro e w4 ⟨n4, s4, rfl, t4, hb4⟩
  clear y0 y1 y2
  have hq4 := bon hq3 hb4
  go_wp2_with fail
  obtain ⟨W5, hW5⟩ : ∃ W5, W5 = w4.alloc (.cells #[.int .u64 n4, .int .i64 s4, .pointer none] 40) := ⟨_, rfl⟩
  have hB5 : Below W0.heap.size W0 W5 := by rw [hW5]; exact bal hq4 _
  have hA5 : Box W5 w4.heap.size n4 s4 := by rw [hW5]; exact ⟨by go_simp, by go_simp, by go_simp, fun o => by go_simp, by simp⟩
  have hM5 := hM0.on hB5
  have hR5 := hR0.on hB5
  have hlr : w.heap.size + 1 < w4.heap.size := Nat.lt_of_lt_of_le hr1 hq4.size
  rw [← hW5]
  clear hW5
  have hb5 : Below w.heap.size w W5 := bon hB0 hB5
  go_split_ands
  clear hb1 hq1 hb2 hq2 hb3 hq3 hM3 hb4 hB5 hM2 hP0 hR0 hM0 hB0 hpe hne hne1 hr0 hr1
  generalize w4.heap.size = b6 at *
  clear hq4
  obtain ⟨first, hfirst⟩ : ∃ f, f = H + (if tmo - 499999998 < 2 * hbt then 2 * hbt else tmo - 499999998) := ⟨_, rfl⟩
  have HF : Hid (first = H + (if tmo - 499999998 < 2 * hbt then 2 * hbt else tmo - 499999998)) := hfirst
  have bf0 : -300000000000 ≤ first := by rw [hfirst]; split <;> omega
  have bf1 : first ≤ 300000000000 := by rw [hfirst]; split <;> omega
  clear hfirst
  go_cut [7] (fun s7 wc => ∃ (b : Nat) (n s : Int), s7 = .pointer (some ⟨b, 0, none⟩) ∧ Box wc b n s ∧ Tm n s first ∧ Below W5.heap.size W5 wc)
  case first =>
    have u1 := hM5.f7
    have u2 := hM5.f8
    have u3 := hM5.f48
    have u4 := hM5.f49
    have u5 := hM5.f50
    have v1 : IntKind.i64.wrap (tmo - 499999998) = tmo - 499999998 := by rw [IntKind.wrap_i64]; omega
    have v2 : IntKind.i64.wrap (2 * hbt) = 2 * hbt := by rw [IntKind.wrap_i64]; omega
    by_cases hmx : tmo - 499999998 < 2 * hbt
    · have hT : Hid (first = H + 2 * hbt) := by have := HF.out; rw [if_pos hmx] at this; exact this
      go_region_held3 (fun w' => Below W5.heap.size W5 w' ∧ w'.cell? ⟨M, 7, none⟩ = some (.int .i64 hbt) ∧ w'.cell? ⟨M, 8, none⟩ = some (.int .i64 tmo) ∧ w'.cell? ⟨M, 48, none⟩ = some (.int .u64 nh) ∧ w'.cell? ⟨M, 49, none⟩ = some (.int .i64 sh) ∧ w'.cell? ⟨M, 50, none⟩ = some (.pointer none)) ((go_split_ands; refine Mach.kHeard hM5 ?_; (repeat (first | with_reducible exact Below.refl _ _ | with_reducible assumption | with_reducible refine Below.drew ?_ | with_reducible refine bal ?_ _ | (with_reducible refine Below.setCell ?_ ?hside _; (case hside => first | omega | (dsimp only; omega) | (simp; omega))))))) (((go_at_call 7; refine (add_tm nh sh (2 * hbt) H _ tH (by omega) (by omega) (by omega) (by omega)).mono ?_; rintro e w6 ⟨n6, s6, rfl, t6, hb6⟩; go_split_ands; have hq6 := bon (by assumption) hb6; have hs6 := hq6.size; obtain ⟨hc6, hf6, hz6⟩ := bcell hb6; (try simp at hz6))))
      all_goals
        go_wp2_with fail
        go_meet
        case rel =>
          go_split_ands
          refine ⟨_, _, _, rfl, ⟨?_, ?_, ?_, ?_, ?_⟩, by have := hT.out; rw [this]; exact t6, ?_⟩
          · go_simp
          · go_simp
          · go_simp
          · intro o; go_simp
          · simp; try omega
          · (repeat (first | with_reducible exact Below.refl _ _ | with_reducible assumption | with_reducible refine Below.drew ?_ | with_reducible refine bal ?_ _ | (with_reducible refine Below.setCell ?_ ?hside _; (case hside => first | omega | (dsimp only; omega) | (simp; omega)))))
    · have hT : Hid (first = H + (tmo - 499999998)) := by have := HF.out; rw [if_neg hmx] at this; exact this
      go_region_held3 (fun w' => Below W5.heap.size W5 w' ∧ w'.cell? ⟨M, 7, none⟩ = some (.int .i64 hbt) ∧ w'.cell? ⟨M, 8, none⟩ = some (.int .i64 tmo) ∧ w'.cell? ⟨M, 48, none⟩ = some (.int .u64 nh) ∧ w'.cell? ⟨M, 49, none⟩ = some (.int .i64 sh) ∧ w'.cell? ⟨M, 50, none⟩ = some (.pointer none)) ((go_split_ands; refine Mach.kHeard hM5 ?_; (repeat (first | with_reducible exact Below.refl _ _ | with_reducible assumption | with_reducible refine Below.drew ?_ | with_reducible refine bal ?_ _ | (with_reducible refine Below.setCell ?_ ?hside _; (case hside => first | omega | (dsimp only; omega) | (simp; omega))))))) (((go_at_call 7; refine (add_tm nh sh ((tmo - 499999998)) H _ tH (by omega) (by omega) (by omega) (by omega)).mono ?_; rintro e w6 ⟨n6, s6, rfl, t6, hb6⟩; go_split_ands; have hq6 := bon (by assumption) hb6; have hs6 := hq6.size; obtain ⟨hc6, hf6, hz6⟩ := bcell hb6; (try simp at hz6))))
      all_goals
        go_wp2_with fail
        go_meet
        case rel =>
          go_split_ands
          refine ⟨_, _, _, rfl, ⟨?_, ?_, ?_, ?_, ?_⟩, by have := hT.out; rw [this]; exact t6, ?_⟩
          · go_simp
          · go_simp
          · go_simp
          · intro o; go_simp
          · simp; try omega
          · (repeat (first | with_reducible exact Below.refl _ _ | with_reducible assumption | with_reducible refine Below.drew ?_ | with_reducible refine bal ?_ _ | (with_reducible refine Below.setCell ?_ ?hside _; (case hside => first | omega | (dsimp only; omega) | (simp; omega)))))
  case rest =>
    obtain ⟨b7, n7, s7, rfl, hF7, t7, hw7⟩ := hcut
    have hM7 := hM5.on hw7
    have hA7 := hA5.on hw7
    have hR7 := hR5.on hw7
    have hb7 := bon hb5 hw7
    have hl6 : ¬ b6 = b7 ∨ True := Or.inr trivial
    clear hM5 hA5 hR5 hb5 hw7 hl6
    have e0 := hM7.f58
    have e1 := hM7.f59
    have e2 := hM7.f60
    have e3 := hF7.c0
    have e4 := hF7.c1
    have e5 := hF7.c2
    have q1 := tP.lo; have q2 := tP.hi; have q3 := t7.lo; have q4 := t7.hi; have q5 := tA.lo; have q6 := tA.hi; have q7 := t4.lo; have q8 := t4.hi
    by_cases hlt : P < first
    · have z1 : bfB np sp n7 s7 = true := by rw [bfB_tm tP t7]; simpa using hlt
      go_wp2_with fail
      go_region_held3 (fun w' => Below wc.heap.size wc w' ∧ w'.cell? ⟨M, 58, none⟩ = some (.int .u64 np) ∧ w'.cell? ⟨M, 59, none⟩ = some (.int .i64 sp) ∧ w'.cell? ⟨M, 60, none⟩ = some (.pointer none) ∧ w'.cell? ⟨b7, 0, none⟩ = some (.int .u64 n7) ∧ w'.cell? ⟨b7, 1, none⟩ = some (.int .i64 s7) ∧ w'.cell? ⟨b7, 2, none⟩ = some (.pointer none)) ((go_split_ands; refine keep8 hM7 hF7 ?_; (repeat (first | with_reducible exact Below.refl _ _ | with_reducible assumption | with_reducible refine Below.drew ?_ | with_reducible refine bal ?_ _ | (with_reducible refine Below.setCell ?_ ?hside _; (case hside => first | omega | (dsimp only; omega) | (simp; omega))))))) (((go_at_call 8; refine (before_b np sp n7 s7 _ q1 q2 q3 q4).mono ?_; rintro e w8 ⟨rfl, hb8⟩; go_split_ands; have hq8 := bon (by assumption) hb8)))
      have hb8' := bon hb7 hq8
      have hM8 := hM.on hb8'
      have hA8 := hA7.on hq8
      have hF8 := hF7.on hq8
      have hR8 := hR7.on hq8
      go_split_ands
      clear hM7 hA7 hF7 hR7 hb7 e0 e1 e2 e3 e4 e5
      obtain ⟨f0, f1, f2, ff, fl⟩ := id hF8
      obtain ⟨g0, g1, g2, gf, gl⟩ := id hA8
      go_wp2_with fail
      obtain ⟨W9, hW9⟩ : ∃ W9, W9 = ((w8.setCell ⟨b6, 0, none⟩ (.int .u64 n7)).setCell ⟨b6, 1, none⟩ (.int .i64 s7)).setCell ⟨b6, 2, none⟩ (.pointer none) := ⟨_, rfl⟩
      have hb9 : Below w.heap.size w W9 := by rw [hW9]; exact below_set3 hb8' (by omega) _ _ _
      have hA9 : Box W9 b6 n7 s7 := by rw [hW9]; exact hA8.set n7 s7
      have hR9 : Box W9 (w.heap.size + 1) 0 0 := by rw [hW9]; exact hR8.other (by omega) _ _ _
      rw [← hW9]
      clear hW9
      have hM9 := hM.on hb9
      obtain ⟨v0, v1, v2, vf, vl⟩ := id hA9
      have u0 := hM9.f61; have u1 := hM9.f62; have u2 := hM9.f63
      clear hM8 hA8 hF8 hR8 f0 f1 f2 ff fl g0 g1 g2 gf gl
      by_cases hla : first < A
      · have z2 : bfB n7 s7 na sa = true := by rw [bfB_tm t7 tA]; simpa using hla
        have hpr : probeAt H P A tmo hbt = A := by
          unfold probeAt; simp only []; have h0 := HF.out; rw [← h0, if_pos hlt]; rw [if_pos hla]
        have HPR : Hid (probeAt H P A tmo hbt = A) := hpr
        clear hpr
        go_region_held3 (fun w' => Below W9.heap.size W9 w' ∧ w'.cell? ⟨M, 61, none⟩ = some (.int .u64 na) ∧ w'.cell? ⟨M, 62, none⟩ = some (.int .i64 sa) ∧ w'.cell? ⟨M, 63, none⟩ = some (.pointer none) ∧ w'.cell? ⟨b6, 0, none⟩ = some (.int .u64 n7) ∧ w'.cell? ⟨b6, 1, none⟩ = some (.int .i64 s7) ∧ w'.cell? ⟨b6, 2, none⟩ = some (.pointer none)) ((go_split_ands; refine keep10 hM9 hA9 ?_; (repeat (first | with_reducible exact Below.refl _ _ | with_reducible assumption | with_reducible refine Below.drew ?_ | with_reducible refine bal ?_ _ | (with_reducible refine Below.setCell ?_ ?hside _; (case hside => first | omega | (dsimp only; omega) | (simp; omega))))))) (((go_at_call 8; refine (before_b n7 s7 na sa _ t7.lo t7.hi q5 q6).mono ?_; rintro e w10 ⟨rfl, hb10⟩; go_split_ands; have hq10 := bon (by assumption) hb10)))
        have hpr := HPR.out
        have hR10 := hR9.on hq10
        have hA10 := hA9.on hq10
        obtain ⟨a0, a1, a2, af, al⟩ := id hA10
        obtain ⟨r0, r1, r2, rf, rl⟩ := id hR10
        have hM10 := hM.on (bon hb9 hq10)
        have k0 := hM10.f61; have k1 := hM10.f62; have k2 := hM10.f63
        have kn : ¬ b6 = w.heap.size + 1 := by omega
        have kn' : ¬ w.heap.size + 1 = b6 := by omega
        go_wp2_with fail
        refine bodyPost_ret (v := .agg #[.int .u64 na, .int .i64 sa, .pointer none]) (by simp [results, Yba.results14, go_sem, r0, r1, r2]) rfl ⟨_, _, rfl, ?_, ?_⟩
        · rw [hpr]; exact tA
        · exact below_set3 (below_set3 (bon hb9 hq10) (by omega) _ _ _) (by omega) _ _ _
      · have z2 : bfB n7 s7 na sa = false := by rw [bfB_tm t7 tA]; simpa using hla
        have hpr : probeAt H P A tmo hbt = first := by
          unfold probeAt; simp only []; have h0 := HF.out; rw [← h0, if_pos hlt]; rw [if_neg hla]
        have HPR : Hid (probeAt H P A tmo hbt = first) := hpr
        clear hpr
        go_region_held3 (fun w' => Below W9.heap.size W9 w' ∧ w'.cell? ⟨M, 61, none⟩ = some (.int .u64 na) ∧ w'.cell? ⟨M, 62, none⟩ = some (.int .i64 sa) ∧ w'.cell? ⟨M, 63, none⟩ = some (.pointer none) ∧ w'.cell? ⟨b6, 0, none⟩ = some (.int .u64 n7) ∧ w'.cell? ⟨b6, 1, none⟩ = some (.int .i64 s7) ∧ w'.cell? ⟨b6, 2, none⟩ = some (.pointer none)) ((go_split_ands; refine keep10 hM9 hA9 ?_; (repeat (first | with_reducible exact Below.refl _ _ | with_reducible assumption | with_reducible refine Below.drew ?_ | with_reducible refine bal ?_ _ | (with_reducible refine Below.setCell ?_ ?hside _; (case hside => first | omega | (dsimp only; omega) | (simp; omega))))))) (((go_at_call 8; refine (before_b n7 s7 na sa _ t7.lo t7.hi q5 q6).mono ?_; rintro e w10 ⟨rfl, hb10⟩; go_split_ands; have hq10 := bon (by assumption) hb10)))
        have hpr := HPR.out
        have hR10 := hR9.on hq10
        have hA10 := hA9.on hq10
        obtain ⟨a0, a1, a2, af, al⟩ := id hA10
        obtain ⟨r0, r1, r2, rf, rl⟩ := id hR10
        have hM10 := hM.on (bon hb9 hq10)
        have k0 := hM10.f61; have k1 := hM10.f62; have k2 := hM10.f63
        have kn : ¬ b6 = w.heap.size + 1 := by omega
        have kn' : ¬ w.heap.size + 1 = b6 := by omega
        go_wp2_with fail
        refine bodyPost_ret (v := .agg #[.int .u64 n7, .int .i64 s7, .pointer none]) (by simp [results, Yba.results14, go_sem, r0, r1, r2]) rfl ⟨_, _, rfl, ?_, ?_⟩
        · rw [hpr]; exact t7
        · exact below_set3 (bon hb9 hq10) (by omega) _ _ _
    · have z1 : bfB np sp n7 s7 = false := by rw [bfB_tm tP t7]; simpa using hlt
      go_wp2_with fail
      go_region_held3 (fun w' => Below wc.heap.size wc w' ∧ w'.cell? ⟨M, 58, none⟩ = some (.int .u64 np) ∧ w'.cell? ⟨M, 59, none⟩ = some (.int .i64 sp) ∧ w'.cell? ⟨M, 60, none⟩ = some (.pointer none) ∧ w'.cell? ⟨b7, 0, none⟩ = some (.int .u64 n7) ∧ w'.cell? ⟨b7, 1, none⟩ = some (.int .i64 s7) ∧ w'.cell? ⟨b7, 2, none⟩ = some (.pointer none)) ((go_split_ands; refine keep8 hM7 hF7 ?_; (repeat (first | with_reducible exact Below.refl _ _ | with_reducible assumption | with_reducible refine Below.drew ?_ | with_reducible refine bal ?_ _ | (with_reducible refine Below.setCell ?_ ?hside _; (case hside => first | omega | (dsimp only; omega) | (simp; omega))))))) (((go_at_call 8; refine (before_b np sp n7 s7 _ q1 q2 q3 q4).mono ?_; rintro e w8 ⟨rfl, hb8⟩; go_split_ands; have hq8 := bon (by assumption) hb8)))
      have hb8' := bon hb7 hq8
      have hM8 := hM.on hb8'
      have hA8 := hA7.on hq8
      have hF8 := hF7.on hq8
      have hR8 := hR7.on hq8
      go_split_ands
      clear hM7 hA7 hF7 hR7 hb7 e0 e1 e2 e3 e4 e5
      obtain ⟨f0, f1, f2, ff, fl⟩ := id hF8
      obtain ⟨g0, g1, g2, gf, gl⟩ := id hA8
      go_wp2_with fail
      obtain ⟨W9, hW9⟩ : ∃ W9, W9 = w8 := ⟨_, rfl⟩
      have hb9 : Below w.heap.size w W9 := by rw [hW9]; exact hb8'
      have hA9 : Box W9 b6 n4 s4 := by rw [hW9]; exact hA8
      have hR9 : Box W9 (w.heap.size + 1) 0 0 := by rw [hW9]; exact hR8
      rw [← hW9]
      clear hW9
      have hM9 := hM.on hb9
      obtain ⟨v0, v1, v2, vf, vl⟩ := id hA9
      have u0 := hM9.f61; have u1 := hM9.f62; have u2 := hM9.f63
      clear hM8 hA8 hF8 hR8 f0 f1 f2 ff fl g0 g1 g2 gf gl
      by_cases hla : (P + 166666666) < A
      · have z2 : bfB n4 s4 na sa = true := by rw [bfB_tm t4 tA]; simpa using hla
        have hpr : probeAt H P A tmo hbt = A := by
          unfold probeAt; simp only []; have h0 := HF.out; rw [← h0, if_neg (show ¬ P < first by omega)]; rw [if_pos hla]
        have HPR : Hid (probeAt H P A tmo hbt = A) := hpr
        clear hpr
        go_region_held3 (fun w' => Below W9.heap.size W9 w' ∧ w'.cell? ⟨M, 61, none⟩ = some (.int .u64 na) ∧ w'.cell? ⟨M, 62, none⟩ = some (.int .i64 sa) ∧ w'.cell? ⟨M, 63, none⟩ = some (.pointer none) ∧ w'.cell? ⟨b6, 0, none⟩ = some (.int .u64 n4) ∧ w'.cell? ⟨b6, 1, none⟩ = some (.int .i64 s4) ∧ w'.cell? ⟨b6, 2, none⟩ = some (.pointer none)) ((go_split_ands; refine keep10 hM9 hA9 ?_; (repeat (first | with_reducible exact Below.refl _ _ | with_reducible assumption | with_reducible refine Below.drew ?_ | with_reducible refine bal ?_ _ | (with_reducible refine Below.setCell ?_ ?hside _; (case hside => first | omega | (dsimp only; omega) | (simp; omega))))))) (((go_at_call 8; refine (before_b n4 s4 na sa _ t4.lo t4.hi q5 q6).mono ?_; rintro e w10 ⟨rfl, hb10⟩; go_split_ands; have hq10 := bon (by assumption) hb10)))
        have hpr := HPR.out
        have hR10 := hR9.on hq10
        have hA10 := hA9.on hq10
        obtain ⟨a0, a1, a2, af, al⟩ := id hA10
        obtain ⟨r0, r1, r2, rf, rl⟩ := id hR10
        have hM10 := hM.on (bon hb9 hq10)
        have k0 := hM10.f61; have k1 := hM10.f62; have k2 := hM10.f63
        have kn : ¬ b6 = w.heap.size + 1 := by omega
        have kn' : ¬ w.heap.size + 1 = b6 := by omega
        go_wp2_with fail
        refine bodyPost_ret (v := .agg #[.int .u64 na, .int .i64 sa, .pointer none]) (by simp [results, Yba.results14, go_sem, r0, r1, r2]) rfl ⟨_, _, rfl, ?_, ?_⟩
        · rw [hpr]; exact tA
        · exact below_set3 (below_set3 (bon hb9 hq10) (by omega) _ _ _) (by omega) _ _ _
      · have z2 : bfB n4 s4 na sa = false := by rw [bfB_tm t4 tA]; simpa using hla
        have hpr : probeAt H P A tmo hbt = (P + 166666666) := by
          unfold probeAt; simp only []; have h0 := HF.out; rw [← h0, if_neg (show ¬ P < first by omega)]; rw [if_neg hla]
        have HPR : Hid (probeAt H P A tmo hbt = (P + 166666666)) := hpr
        clear hpr
        go_region_held3 (fun w' => Below W9.heap.size W9 w' ∧ w'.cell? ⟨M, 61, none⟩ = some (.int .u64 na) ∧ w'.cell? ⟨M, 62, none⟩ = some (.int .i64 sa) ∧ w'.cell? ⟨M, 63, none⟩ = some (.pointer none) ∧ w'.cell? ⟨b6, 0, none⟩ = some (.int .u64 n4) ∧ w'.cell? ⟨b6, 1, none⟩ = some (.int .i64 s4) ∧ w'.cell? ⟨b6, 2, none⟩ = some (.pointer none)) ((go_split_ands; refine keep10 hM9 hA9 ?_; (repeat (first | with_reducible exact Below.refl _ _ | with_reducible assumption | with_reducible refine Below.drew ?_ | with_reducible refine bal ?_ _ | (with_reducible refine Below.setCell ?_ ?hside _; (case hside => first | omega | (dsimp only; omega) | (simp; omega))))))) (((go_at_call 8; refine (before_b n4 s4 na sa _ t4.lo t4.hi q5 q6).mono ?_; rintro e w10 ⟨rfl, hb10⟩; go_split_ands; have hq10 := bon (by assumption) hb10)))
        have hpr := HPR.out
        have hR10 := hR9.on hq10
        have hA10 := hA9.on hq10
        obtain ⟨a0, a1, a2, af, al⟩ := id hA10
        obtain ⟨r0, r1, r2, rf, rl⟩ := id hR10
        have hM10 := hM.on (bon hb9 hq10)
        have k0 := hM10.f61; have k1 := hM10.f62; have k2 := hM10.f63
        have kn : ¬ b6 = w.heap.size + 1 := by omega
        have kn' : ¬ w.heap.size + 1 = b6 := by omega
        go_wp2_with fail
        refine bodyPost_ret (v := .agg #[.int .u64 n4, .int .i64 s4, .pointer none]) (by simp [results, Yba.results14, go_sem, r0, r1, r2]) rfl ⟨_, _, rfl, ?_, ?_⟩
        · rw [hpr]; exact t4
        · exact below_set3 (bon hb9 hq10) (by omega) _ _ _
end Go.Proofs.Ybulkdduc

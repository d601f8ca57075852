import Derived.Test.YbulkdducView
import Derived.Laws.StructEq
import Derived.Deep.RegionWith
import Derived.Deep.DrawnRows
import Derived.Deep.DeepCutAuto
namespace Go.Proofs.Ybulkdduc
open Go.RowKit
attribute [local go_sem ↓] Go.wp_at_zero Go.wp_at_succ

/-- The machine of the law, in block M: the cells that watchWake comes to. -/
structure Mach (w : World) (M B k : Nat) (sn : ByteArray) (hbt tmo nb sb nh sh np sp na sa : Int) (xs : ByteArray) (xi nc sc : Int) (qv : Value) : Prop where
  f0 : w.cell? ⟨M, 0, none⟩ = some (.string sn)
  f7 : w.cell? ⟨M, 7, none⟩ = some (.int .i64 hbt)
  f8 : w.cell? ⟨M, 8, none⟩ = some (.int .i64 tmo)
  f10 : w.cell? ⟨M, 10, none⟩ = some (.int .u64 1)
  f11 : w.cell? ⟨M, 11, none⟩ = some (.slice (some ⟨B, 0, none⟩) k k)
  f12 : w.cell? ⟨M, 12, none⟩ = some (.slice none 0 0)
  f13 : w.cell? ⟨M, 13, none⟩ = some (.int .u64 0)
  f14 : w.cell? ⟨M, 14, none⟩ = some (.slice none 0 0)
  f15 : w.cell? ⟨M, 15, none⟩ = some (.int .i64 0)
  f44 : w.cell? ⟨M, 44, none⟩ = some (.int .u64 nb)
  f45 : w.cell? ⟨M, 45, none⟩ = some (.int .i64 sb)
  f46 : w.cell? ⟨M, 46, none⟩ = some (.pointer none)
  f48 : w.cell? ⟨M, 48, none⟩ = some (.int .u64 nh)
  f49 : w.cell? ⟨M, 49, none⟩ = some (.int .i64 sh)
  f50 : w.cell? ⟨M, 50, none⟩ = some (.pointer none)
  f58 : w.cell? ⟨M, 58, none⟩ = some (.int .u64 np)
  f59 : w.cell? ⟨M, 59, none⟩ = some (.int .i64 sp)
  f60 : w.cell? ⟨M, 60, none⟩ = some (.pointer none)
  f61 : w.cell? ⟨M, 61, none⟩ = some (.int .u64 na)
  f62 : w.cell? ⟨M, 62, none⟩ = some (.int .i64 sa)
  f63 : w.cell? ⟨M, 63, none⟩ = some (.pointer none)
  f76 : w.cell? ⟨M, 76, none⟩ = some (.string xs)
  f77 : w.cell? ⟨M, 77, none⟩ = some (.int .u64 0)
  f78 : w.cell? ⟨M, 78, none⟩ = some (.int .u64 0)
  f79 : w.cell? ⟨M, 79, none⟩ = some (.pointer none)
  f80 : w.cell? ⟨M, 80, none⟩ = some (.int .u16 0)
  f81 : w.cell? ⟨M, 81, none⟩ = some (.int .u64 xi)
  f82 : w.cell? ⟨M, 82, none⟩ = some (.int .u64 nc)
  f83 : w.cell? ⟨M, 83, none⟩ = some (.int .i64 sc)
  f84 : w.cell? ⟨M, 84, none⟩ = some (.pointer none)
  f132 : w.cell? ⟨M, 132, none⟩ = some (qv)
  f134 : w.cell? ⟨M, 134, none⟩ = some (.pointer none)
  lt : M < w.heap.size
  mems : Mems w B k
  ne : B ≠ M

theorem Mach.on {w w' : World} {M B k : Nat} {sn : ByteArray} {hbt tmo nb sb nh sh np sp na sa : Int} {xs : ByteArray} {xi nc sc : Int} {qv : Value} (h : Mach w M B k sn hbt tmo nb sb nh sh np sp na sa xs xi nc sc qv) (hb : Below w.heap.size w w') : Mach w' M B k sn hbt tmo nb sb nh sh np sp na sa xs xi nc sc qv :=
  ⟨(hb.cell h.lt).trans h.f0, (hb.cell h.lt).trans h.f7, (hb.cell h.lt).trans h.f8, (hb.cell h.lt).trans h.f10, (hb.cell h.lt).trans h.f11, (hb.cell h.lt).trans h.f12, (hb.cell h.lt).trans h.f13, (hb.cell h.lt).trans h.f14, (hb.cell h.lt).trans h.f15, (hb.cell h.lt).trans h.f44, (hb.cell h.lt).trans h.f45, (hb.cell h.lt).trans h.f46, (hb.cell h.lt).trans h.f48, (hb.cell h.lt).trans h.f49, (hb.cell h.lt).trans h.f50, (hb.cell h.lt).trans h.f58, (hb.cell h.lt).trans h.f59, (hb.cell h.lt).trans h.f60, (hb.cell h.lt).trans h.f61, (hb.cell h.lt).trans h.f62, (hb.cell h.lt).trans h.f63, (hb.cell h.lt).trans h.f76, (hb.cell h.lt).trans h.f77, (hb.cell h.lt).trans h.f78, (hb.cell h.lt).trans h.f79, (hb.cell h.lt).trans h.f80, (hb.cell h.lt).trans h.f81, (hb.cell h.lt).trans h.f82, (hb.cell h.lt).trans h.f83, (hb.cell h.lt).trans h.f84, (hb.cell h.lt).trans h.f132, (hb.cell h.lt).trans h.f134, Nat.lt_of_lt_of_le h.lt hb.size, h.mems.on hb, h.ne⟩

theorem field0 (a : ByteArray) (x : Int) (w : World) : (Instr.field 36 (.agg #[.string a, .int .u64 0, .int .u64 0, .pointer none, .int .u16 0, .int .u64 x]) 0).run Yba.prog w = .ok (.string a) w := by
  kernel_rfl

theorem undrew {W w1 : World} (hb : Below W.drew.heap.size W.drew w1) : Below W.heap.size W w1 := (Below.refl _ W).drew.trans hb

theorem ptr_eq (d : Nat) (w : World) : Sem.run Yba.prog (Op.equalIn (d + 1) 28 (.pointer none) (.pointer none)) w = .ok true w := by
  simp [Op.equalIn, run_underlying Yba.underlying28]

theorem Mach.kView {W0 w' : World} {M B k : Nat} {sn : ByteArray} {hbt tmo nb sb nh sh np sp na sa : Int} {xs : ByteArray} {xi nc sc : Int} {qv : Value} (h : Mach W0 M B k sn hbt tmo nb sb nh sh np sp na sa xs xi nc sc qv) (hb : Below W0.heap.size W0 w') : Below W0.heap.size W0 w' ∧ w'.cell? ⟨M, 10, none⟩ = some (.int .u64 1) ∧ w'.cell? ⟨M, 11, none⟩ = some (.slice (some ⟨B, 0, none⟩) k k) ∧ w'.cell? ⟨M, 12, none⟩ = some (.slice none 0 0) ∧ w'.cell? ⟨M, 13, none⟩ = some (.int .u64 0) ∧ w'.cell? ⟨M, 14, none⟩ = some (.slice none 0 0) :=
  ⟨hb, (hb.cell h.lt).trans h.f10, (hb.cell h.lt).trans h.f11, (hb.cell h.lt).trans h.f12, (hb.cell h.lt).trans h.f13, (hb.cell h.lt).trans h.f14⟩

/-- What View.around answers at the members of block B and one name. -/
def AroundIs (B k : Nat) (sn pn qn : ByteArray) (pi qi : Int) (ok : Bool) : Prop :=
  ∀ w', Mems w' B k → Calls Yba.prog 20 #[.agg #[.int .u64 1, .slice (some ⟨B, 0, none⟩) k k, .slice none 0 0, .int .u64 0, .slice none 0 0], .string sn] w' fun e w'' => e = .returned (.tuple #[.agg #[.string pn, .int .u64 0, .int .u64 0, .pointer none, .int .u16 0, .int .u64 pi], .agg #[.string qn, .int .u64 0, .int .u64 0, .pointer none, .int .u16 0, .int .u64 qi], .bool ok]) ∧ Below w'.heap.size w' w''

set_option maxHeartbeats 2000000 in
theorem leader_any (M B k : Nat) (sn : ByteArray) (hbt tmo nb sb nh sh np sp na sa : Int) (xs : ByteArray) (xi nc sc : Int) (qv : Value) (w : World) (hM : Mach w M B k sn hbt tmo nb sb nh sh np sp na sa xs xi nc sc qv) (hk : 1 ≤ k) (hk8 : k ≤ 8) :
    Calls Yba.prog 21 #[.pointer (some ⟨M, 0, none⟩)] w fun e w' => e = .returned (.agg #[.string (nm 0), .int .u64 0, .int .u64 0, .pointer none, .int .u16 0, .int .u64 0]) ∧ Below w.heap.size w w' := by
  have a1 := hM.f11
  have a2 := hM.f15
  have m0 := hM.mems.c0 0 hk
  have m1 := hM.mems.c1 0 hk
  have m2 := hM.mems.c2 0 hk
  have m3 := hM.mems.c3 0 hk
  have m4 := hM.mems.c4 0 hk
  have m5 := hM.mems.c5 0 hk
  simp only [Nat.zero_mul, Nat.zero_add] at m0 m1 m2 m3 m4 m5
  have hkI : (0 : Int) < k := by omega
  have hkN : 0 < k := by omega
  have l1 := hM.lt
  have l2 := hM.mems.lt
  have n1 : ¬ w.heap.size = B := by omega
  have n2 : ¬ B = w.heap.size := by omega
  have n3 : ¬ w.heap.size = M := by omega
  have n4 : ¬ M = w.heap.size := by omega
  have n5 : ¬ w.heap.size + 1 = B := by omega
  have n6 : ¬ B = w.heap.size + 1 := by omega
  have n7 : ¬ w.heap.size + 1 = M := by omega
  have n8 : ¬ M = w.heap.size + 1 := by omega
  clear hM
  go_enter Yba.func21, Yba.ntmps21
  go_wp2_with fail
  go_region_held3 (fun w' => w'.cell? ⟨M, 11, none⟩ = some (.slice (some ⟨B, 0, none⟩) k k) ∧ w'.cell? ⟨M, 15, none⟩ = some (.int .i64 0) ∧ w'.cell? ⟨B, 0, none⟩ = some (.string (nm 0)) ∧ w'.cell? ⟨B, 1, none⟩ = some (.int .u64 0) ∧ w'.cell? ⟨B, 2, none⟩ = some (.int .u64 0) ∧ w'.cell? ⟨B, 3, none⟩ = some (.pointer none) ∧ w'.cell? ⟨B, 4, none⟩ = some (.int .u16 0) ∧ w'.cell? ⟨B, 5, none⟩ = some (.int .u64 0)) (go_keep) (fail)
  go_wp2
  refine bodyPost_ret (v := .agg #[.string (nm 0), .int .u64 0, .int .u64 0, .pointer none, .int .u16 0, .int .u64 0]) (by simp [results, Yba.results21, go_sem]) rfl ⟨rfl, ?_⟩
  exact (b1 w _).drew

set_option maxHeartbeats 2000000 in
theorem ring_any (M B k : Nat) (sn : ByteArray) (hbt tmo nb sb nh sh np sp na sa : Int) (xs : ByteArray) (xi nc sc : Int) (qv : Value) (pn qn : ByteArray) (pi qi : Int) (ok : Bool) (w : World) (hM : Mach w M B k sn hbt tmo nb sb nh sh np sp na sa xs xi nc sc qv)
    (hA : AroundIs B k sn pn qn pi qi ok) :
    Calls Yba.prog 12 #[.pointer (some ⟨M, 0, none⟩)] w fun e w' => e = .returned (.tuple #[.agg #[.string pn, .int .u64 0, .int .u64 0, .pointer none, .int .u16 0, .int .u64 pi], .agg #[.string qn, .int .u64 0, .int .u64 0, .pointer none, .int .u16 0, .int .u64 qi], .bool ok]) ∧ Below w.heap.size w w' := by
  have a0 := hM.f0
  have a1 := hM.f10
  have a2 := hM.f11
  have a3 := hM.f12
  have a4 := hM.f13
  have a5 := hM.f14
  have l1 := hM.lt
  have l2 := hM.mems.lt
  have n1 : ¬ w.heap.size = B := by omega
  have n2 : ¬ B = w.heap.size := by omega
  have n3 : ¬ w.heap.size = M := by omega
  have n4 : ¬ M = w.heap.size := by omega
  have n5 : ¬ w.heap.size + 1 = B := by omega
  have n6 : ¬ B = w.heap.size + 1 := by omega
  have n7 : ¬ w.heap.size + 1 = M := by omega
  have n8 : ¬ M = w.heap.size + 1 := by omega
  go_enter Yba.func12, Yba.ntmps12
  go_wp2_with fail
  go_region_held3 (fun w' => w'.cell? ⟨M, 0, none⟩ = some (.string sn) ∧ w'.cell? ⟨M, 10, none⟩ = some (.int .u64 1) ∧ w'.cell? ⟨M, 11, none⟩ = some (.slice (some ⟨B, 0, none⟩) k k) ∧ w'.cell? ⟨M, 12, none⟩ = some (.slice none 0 0) ∧ w'.cell? ⟨M, 13, none⟩ = some (.int .u64 0) ∧ w'.cell? ⟨M, 14, none⟩ = some (.slice none 0 0)) (first | go_keep | exact ⟨hM1.f0, hM1.f10, hM1.f11, hM1.f12, hM1.f13, hM1.f14⟩ | fail) ((go_at_call 20; refine (hA _ ?_).mono ?_; (exact hM.mems.on (by first | exact b2 w _ _ | exact (b2 w _ _).drew)); rintro e w1 ⟨rfl, hb'⟩; have hb := undrew hb'; clear hb'; have hM1 := hM.on (bon (b2 w _ _) hb); obtain ⟨hc, hf, hz⟩ := bcell hb))
  go_wp2
  refine bodyPost_ret (v := .tuple #[.agg #[.string pn, .int .u64 0, .int .u64 0, .pointer none, .int .u16 0, .int .u64 pi], .agg #[.string qn, .int .u64 0, .int .u64 0, .pointer none, .int .u16 0, .int .u64 qi], .bool ok]) (by simp [results, Yba.results12, go_sem, hc, show w.heap.size < w.heap.size + 1 + 1 from by omega]) rfl ⟨rfl, ?_⟩
  exact below_set6 (below_set6 (bon (b2 w _ _) hb) (by omega) _ _ _ _ _ _) (by omega) _ _ _ _ _ _

set_option maxHeartbeats 2000000 in
theorem afterLead_any (M B k : Nat) (sn : ByteArray) (hbt tmo nb sb nh sh np sp na sa : Int) (xs : ByteArray) (xi nc sc : Int) (qv : Value) (pn qn : ByteArray) (pi qi : Int) (ok : Bool) (w : World) (hM : Mach w M B k sn hbt tmo nb sb nh sh np sp na sa xs xi nc sc qv) (hk : 1 ≤ k) (hk8 : k ≤ 8)
    (hA : AroundIs B k (nm 0) pn qn pi qi ok) :
    Calls Yba.prog 22 #[.pointer (some ⟨M, 0, none⟩)] w fun e w' => e = .returned (.agg #[.string qn, .int .u64 0, .int .u64 0, .pointer none, .int .u16 0, .int .u64 qi]) ∧ Below w.heap.size w w' := by
  have a1 := hM.f10
  have a2 := hM.f11
  have a3 := hM.f12
  have a4 := hM.f13
  have a5 := hM.f14
  have l1 := hM.lt
  have l2 := hM.mems.lt
  have n1 : ¬ w.heap.size = B := by omega
  have n2 : ¬ B = w.heap.size := by omega
  have n3 : ¬ w.heap.size = M := by omega
  have n4 : ¬ M = w.heap.size := by omega
  have n5 : ¬ w.heap.size + 1 = B := by omega
  have n6 : ¬ B = w.heap.size + 1 := by omega
  have n7 : ¬ w.heap.size + 1 = M := by omega
  have n8 : ¬ M = w.heap.size + 1 := by omega
  have hfl := field0 (nm 0) 0
  go_enter Yba.func22, Yba.ntmps22
  go_wp2_with fail
  obtain ⟨W0, hW0⟩ : ∃ W0, W0 = w.alloc (.cells #[.string ⟨#[]⟩, .int .u64 0, .int .u64 0, .pointer none, .int .u16 0, .int .u64 0] 36) := ⟨_, rfl⟩
  have hB0 : Below w.heap.size w W0 := by rw [hW0]; exact b1 w _
  have hr0 : w.heap.size < W0.heap.size := by rw [hW0]; simp
  have g0 : W0.cell? ⟨w.heap.size, 0, none⟩ = some (.string ⟨#[]⟩) := by rw [hW0]; go_simp
  have g1 : W0.cell? ⟨w.heap.size, 1, none⟩ = some (.int .u64 0) := by rw [hW0]; go_simp
  have g2 : W0.cell? ⟨w.heap.size, 2, none⟩ = some (.int .u64 0) := by rw [hW0]; go_simp
  have g3 : W0.cell? ⟨w.heap.size, 3, none⟩ = some (.pointer none) := by rw [hW0]; go_simp
  have g4 : W0.cell? ⟨w.heap.size, 4, none⟩ = some (.int .u16 0) := by rw [hW0]; go_simp
  have g5 : W0.cell? ⟨w.heap.size, 5, none⟩ = some (.int .u64 0) := by rw [hW0]; go_simp
  have gf : ∀ o, W0.frozen? ⟨w.heap.size, o, none⟩ = false := by intro o; rw [hW0]; go_simp
  have hM0 := hM.on hB0
  rw [← hW0]
  clear hW0
  go_cut [4] (fun s4 wc => ∃ b : Nat, s4 = .pointer (some ⟨b, 0, none⟩) ∧ Below W0.heap.size W0 wc ∧ wc.cell? ⟨b, 0, none⟩ = some (.string qn) ∧ wc.cell? ⟨b, 1, none⟩ = some (.int .u64 0) ∧ wc.cell? ⟨b, 2, none⟩ = some (.int .u64 0) ∧ wc.cell? ⟨b, 3, none⟩ = some (.pointer none) ∧ wc.cell? ⟨b, 4, none⟩ = some (.int .u16 0) ∧ wc.cell? ⟨b, 5, none⟩ = some (.int .u64 qi))
  case first =>
    go_region_held3 (fun w' => Below W0.heap.size W0 w' ∧ w'.cell? ⟨M, 10, none⟩ = some (.int .u64 1) ∧ w'.cell? ⟨M, 11, none⟩ = some (.slice (some ⟨B, 0, none⟩) k k) ∧ w'.cell? ⟨M, 12, none⟩ = some (.slice none 0 0) ∧ w'.cell? ⟨M, 13, none⟩ = some (.int .u64 0) ∧ w'.cell? ⟨M, 14, none⟩ = some (.slice none 0 0)) ((go_split_ands; refine Mach.kView hM0 ?_; (repeat (first | with_reducible exact Below.refl _ _ | with_reducible assumption | with_reducible refine Below.drew ?_ | with_reducible refine bal ?_ _ | (with_reducible refine Below.setCell ?_ ?hside _; (case hside => first | omega | (dsimp only; omega) | (simp; omega))))))) ((first | (go_at_call 21; refine (leader_any M B k sn hbt tmo nb sb nh sh np sp na sa xs xi nc sc qv _ ?_ hk hk8).mono ?_; (go_split_ands; exact hM0.on (by assumption)); rintro e w1 ⟨rfl, hb1⟩; go_split_ands; have hq1 := bon (by assumption) hb1; have hs1 := hq1.size; obtain ⟨hc1, hf1, hz1⟩ := bcell hb1; (try simp at hz1); (try (have hz1a : W0.heap.size < w1.heap.size := (by omega))); (try (have hz1b : W0.heap.size + 1 < w1.heap.size := (by omega)))) | (go_at_call 20; refine (hA _ ?_).mono ?_; (go_split_ands; exact (hM0.on (by assumption)).mems); rintro e w2 ⟨rfl, hb2⟩; go_split_ands; have hq2 := bon (by assumption) hb2; have hs2 := hq2.size; obtain ⟨hc2, hf2, hz2⟩ := bcell hb2; (try simp at hz2); (try (have hz2a : W0.heap.size < w2.heap.size := (by omega))); (try (have hz2b : W0.heap.size + 1 < w2.heap.size := (by omega))); (try (have hz2c : w1.heap.size < w2.heap.size := (by omega))); (try (have hz2d : w1.heap.size + 1 < w2.heap.size := (by omega))))))
    all_goals
      go_wp2_with fail
      go_meet
      case rel =>
        go_split_ands
        refine ⟨_, rfl, ?_, ?_, ?_, ?_, ?_, ?_, ?_⟩
        · (repeat (first | with_reducible exact Below.refl _ _ | with_reducible assumption | with_reducible refine Below.drew ?_ | with_reducible refine bal ?_ _ | (with_reducible refine Below.setCell ?_ ?hside _; (case hside => first | omega | (dsimp only; omega) | (simp; omega)))))
        all_goals
          have ys : ∀ n : Nat, ¬ n + 1 = n := fun n => by omega
          try have y2 : ¬ w1.heap.size = W0.heap.size := by omega
          have y3 : ∀ n : Nat, n < n + 1 + 1 := fun n => by omega
          try have y4 : W0.heap.size < w1.heap.size + 1 := by omega
          try have y5 : W0.heap.size < w1.heap.size + 1 + 1 := by omega
          go_simp
  case rest =>
    obtain ⟨b, rfl, hbc, d0, d1, d2, d3, d4, d5⟩ := hcut
    obtain ⟨hc, hf, hz⟩ := bcell hbc
    have hx := fun o => hf w.heap.size o hr0
    have x0 := (hc w.heap.size 0 hr0).trans g0
    have x1 := (hc w.heap.size 1 hr0).trans g1
    have x2 := (hc w.heap.size 2 hr0).trans g2
    have x3 := (hc w.heap.size 3 hr0).trans g3
    have x4 := (hc w.heap.size 4 hr0).trans g4
    have x5 := (hc w.heap.size 5 hr0).trans g5
    have xf := fun o => (hf w.heap.size o hr0).trans (gf o)
    clear hc hf hx
    go_wp2
    refine bodyPost_ret (v := .agg #[.string qn, .int .u64 0, .int .u64 0, .pointer none, .int .u16 0, .int .u64 qi]) (by simp [results, Yba.results22, go_sem, x0, x1, x2, x3, x4, x5]) rfl ⟨rfl, ?_⟩
    exact below_set6 (bon hB0 hbc) (Nat.le_refl _) _ _ _ _ _ _
end Go.Proofs.Ybulkdduc

import Derived.Test.YbulkdducLawB
namespace Go.Proofs.Ybulkdduc
open Go.RowKit Go.Sort
attribute [local go_sem ↓] Go.wp_at_zero Go.wp_at_succ

set_option linter.unusedVariables false

set_option maxRecDepth 100000 in
set_option maxHeartbeats 2000000 in
theorem law_core (a0 a1 a2 : Int) (a3 : Bool) (a4 a5 a6 a7 a8 a9 a10 : Int) (w : World) (i00 : 0 ≤ a0) (i01 : a0 ≤ 255) (i10 : 0 ≤ a1) (i11 : a1 ≤ 255) (i20 : 0 ≤ a2) (i21 : a2 ≤ 255)
    (i40 : -32768 ≤ a4) (i41 : a4 ≤ 32767) (i50 : -32768 ≤ a5) (i51 : a5 ≤ 32767) (i60 : -32768 ≤ a6) (i61 : a6 ≤ 32767) (i70 : -32768 ≤ a7) (i71 : a7 ≤ 32767) (i80 : -32768 ≤ a8) (i81 : a8 ≤ 32767) (i90 : 0 ≤ a9) (i91 : a9 ≤ 65535) (iA0 : 0 ≤ a10) (iA1 : a10 ≤ 65535) :
    Calls Yba.prog 3 #[.int .u8 a0, .int .u8 a1, .int .u8 a2, .bool a3, .int .i16 a4, .int .i16 a5, .int .i16 a6, .int .i16 a7, .int .i16 a8, .int .u16 a9, .int .u16 a10] w fun e w' => e = .returned (.bool true) ∧ Below w.heap.size w w' := by
  obtain ⟨k', hk'⟩ : ∃ k' : Nat, a0 % 8 = k' := ⟨(a0 % 8).toNat, by omega⟩
  obtain ⟨k, hk⟩ : ∃ k : Nat, k = k' + 1 := ⟨_, rfl⟩
  have hk1 : (1 : Int) + k' = k := by omega
  have hkt : a0.tmod 8 = k' := by rw [Int.tmod_eq_emod_of_nonneg i00]; exact hk'
  have hk8 : k ≤ 8 := by omega
  have hk0 : 1 ≤ k := by omega
  have hmk := make_members k hk8
  clear hk
  go_enter Yba.func3, Yba.ntmps3
  go_wp2_with fail
  go_loopw [52] (fun i wr => ∃ j : Nat, j ≤ k ∧ i = .int .i64 j ∧ Below w.heap.size w wr ∧ PMems wr w.heap.size k j) (fun i _ => k - (intOf i).toNat)
  case atStart => exact ⟨0, Nat.zero_le _, rfl, b1 w _, pmems_made w k⟩
  case round =>
    obtain ⟨j, hj, rfl, hb, hp⟩ := hrel
    rcases Nat.lt_or_ge j k with hlt | hge
    · have hjk : (j : Int) < k := by omega
      have he := encode_nm j (by omega)
      obtain ⟨v0, d0⟩ := hp.is (j * 6) (by omega)
      obtain ⟨v1, d1⟩ := hp.is (j * 6 + 1) (by omega)
      obtain ⟨v2, d2⟩ := hp.is (j * 6 + 2) (by omega)
      obtain ⟨v3, d3⟩ := hp.is (j * 6 + 3) (by omega)
      obtain ⟨v4, d4⟩ := hp.is (j * 6 + 4) (by omega)
      obtain ⟨v5, d5⟩ := hp.is (j * 6 + 5) (by omega)
      have hfr := hp.fr
      go_wp2
      exact ⟨⟨j + 1, by omega, by go_num, below_s6 hb (Nat.le_refl _) _ _ _ _ _ _, hp.step hlt⟩, by simp [intOf]; omega⟩
    · obtain rfl : k = j := by omega
      have hm := hp.mems
      clear hmk hp hj hge
      obtain ⟨si, hsi⟩ : ∃ si : Nat, a1 % ((k : Int) + 1) = si := ⟨(a1 % ((k : Int) + 1)).toNat, by have := Int.emod_nonneg a1 (show (k : Int) + 1 ≠ 0 by omega); omega⟩
      have hsl : si < k + 1 := by have := Int.emod_lt_of_pos a1 (show (0 : Int) < (k : Int) + 1 by omega); omega
      have hst : a1.tmod ((k : Int) + 1) = si := by rw [Int.tmod_eq_emod_of_nonneg i10]; exact hsi
      have hkz : ¬ (k : Int) + 1 = 0 := by omega
      clear hkt hk' hk1
      obtain ⟨sn, hsn⟩ : ∃ sn : ByteArray, sn = if si < k then nm si else ⟨#[122]⟩ := ⟨_, rfl⟩
      have HSN : Hid (sn = if si < k then nm si else ⟨#[122]⟩) := hsn
      clear hsn
      go_upto_if 74 with (fail)
      go_cut [] (fun wc => Below w.heap.size w wc ∧ Mems wc w.heap.size k ∧ ∃ x : Int, MBox wc wr.heap.size sn x)
      case first =>
        by_cases hlt : si < k
        · have hli : (si : Int) < k := by omega
          have e0 := hm.c0 si hlt; have e1 := hm.c1 si hlt; have e2 := hm.c2 si hlt; have e3 := hm.c3 si hlt; have e4 := hm.c4 si hlt; have e5 := hm.c5 si hlt
          have hml := hm.lt
          go_wp2_with fail
          go_meet
          case rel =>
            rw [HSN.out, if_pos hlt]
            exact ⟨bal hb _, hm.on (b1 _ _), (si : Int), ⟨by go_simp, by go_simp, by go_simp, by go_simp, by go_simp, by go_simp, by simp⟩⟩
        · have hli : ¬ (si : Int) < k := by omega
          go_wp2_with fail
          go_meet
          case rel =>
            rw [HSN.out, if_neg (by omega)]
            exact ⟨bal hb _, hm.on (b1 _ _), 0, ⟨by go_simp, by go_simp, by go_simp, by go_simp, by go_simp, by go_simp, by simp⟩⟩
      case rest =>
        obtain ⟨hb1, hm1, x, hS1⟩ := hcut
        rename_i hK
        refine hK _ _ ?_
        exact partB a0 a1 a2 a3 a4 a5 a6 a7 a8 a9 a10 w _ k si w.heap.size _ sn x i20 i21 i40 i41 i50 i51 i60 i61 i70 i71 i80 i81 i90 i91 iA0 iA1 hk8 hk0 hsl HSN.out hb1 hS1 hm1 _ _ _ _ _ _ _ _ _ _ _ _ _ _ _ _ _ _ _ _ _ _ _ _ _ _ _ _ _ _ _ _ _ _ _ _ _ _ _ _ _ _ _ _ _ _ _ _ _ _ _ _ _ _ _ _ _ _ _ _ _ _ _ _ _ _ _ _ _ _ _ _ _ _ _ _ _ _ _ _ _ _ _ _ _ _ _ _ _ _ _ _ _ _ _ _ _ _ _ _ _ _ _ _ _ _ _ _ _ _ _ _ _ _ _ _ _ _ _ _ _ _ _ _ _ _ _ _ _ _ _ _ _ _ _ _ _ _ _ _ _ _ _ _ _ _ _ _ _ _ _ _ _ _ _ _ _ _ _ _ _ _ _ _ _ _ _ _ _ _ _ _ _ _ _ _ _ _ _ _ _ _ _ _ _ _ _ _ _ _ _ _ _ _ _ _ _ _ _ _ _ _ _ _ _ _ _ _ _ _ _ _ _ _ _ _ _ _ _ _ _ _ _ _ _ _ _ _ _ _ _ _ _ _ _ _ _ _ _ _ _ _ _ _ _ _ _ _
end Go.Proofs.Ybulkdduc

import Derived.Test.YbulkdduqFmtRead
namespace Go.Proofs.YbulkdduqFmt
open Go.RowKit Go.Extern.Stop Go.Stop Go.Extern
set_option linter.unusedVariables false

/-- The world in which the reader is made. -/
def rdWorld (W : World) (v : Value) (o : Int) : World := W.alloc (.cells #[v, .int .i64 o] 26)
theorem rdWorld_below (W : World) (v : Value) (o : Int) : Below W.heap.size W (rdWorld W v o) := (Below.refl _ _).alloc (Nat.le_refl _) _
theorem rdWorld_rd (W : World) (a : Option Addr) (len cap : Nat) (o : Int) : Rd (rdWorld W (.slice a len cap) o) W.heap.size (.slice a len cap) o :=
  ⟨by unfold rdWorld; go_simp, by unfold rdWorld; go_simp, fun k => by unfold rdWorld; go_simp, by unfold rdWorld; simp⟩

set_option maxRecDepth 100000 in
set_option maxHeartbeats 2000000 in
theorem model_large (W : World) (a : Option Addr) (len cap : Nat) (off mx : Int) (h : 1048576 < len) :
    Calls Ybaf.prog 3 #[.slice a len cap, .int .u64 off, .int .i64 mx] W fun e W' => e = .returned (.bool true) ∧ Below W.heap.size W W' := by
  have h' : (1048576 : Int) < len := by omega
  go_enter Ybaf.func3, Ybaf.ntmps3
  go_wp2_with fail
  go_ret
  exact ⟨rfl, Below.refl _ _⟩

set_option maxRecDepth 100000 in
set_option maxHeartbeats 2000000 in
theorem model_early (F : Interp) (W : World) (a : Option Addr) (len cap : Nat) (off mx : Int) (o : Nat) (hF : F.answers W.tape) (h : len ≤ 1048576) (h0 : 0 ≤ off) (h1 : off ≤ 18446744073709551615) (ho : off % ((len : Int) + 1) = (o : Int)) (hol : o ≤ len) (he : len < o + 4) :
    Calls Ybaf.prog 3 #[.slice a len cap, .int .u64 off, .int .i64 mx] W fun e W' => e = .returned (.bool true) ∧ Below W.heap.size W W' := by
  have h' : ¬ (1048576 : Int) < len := by omega
  have he' : (len : Int) - o < 4 := by omega
  have hb0 := rdWorld_below W (.slice a len cap) o
  have hr0 := rdWorld_rd W a len cap o
  have hcall := length_err F W.heap.size len cap a o mx (rdWorld W (.slice a len cap) o) hF hr0 h he hol
  go_enter Ybaf.func3, Ybaf.ntmps3
  go_wp2_with (go_at_call 5; refine hcall.mono ?_)
  rintro e w1 ⟨⟨N, rfl⟩, hb⟩
  have hb1 : Below W.heap.size W w1 := hb0.trans (hb.mono hb0.size)
  have hr1 := hr0.on hb
  obtain ⟨c0, c1, fr, hlt⟩ := hr1
  clear hcall hb0 hr0 hb
  go_wp2_with fail
  go_ret
  exact ⟨rfl, hb1⟩

/-- The word of the first j bytes. -/
def part4 (a b c d : Nat) : Nat → Nat
  | 0 => 0
  | 1 => a
  | 2 => a * 256 + b
  | 3 => (a * 256 + b) * 256 + c
  | _ => word a b c d

/-- The j-th of four bytes. -/
def nth4 (a b c d : Nat) : Nat → Nat
  | 0 => a
  | 1 => b
  | 2 => c
  | _ => d

theorem part4_step (a b c d j : Nat) (hj : j < 4) : part4 a b c d j * 256 + nth4 a b c d j = part4 a b c d (j + 1) := by
  match j, hj with
  | 0, _ => simp [part4, nth4]
  | 1, _ => rfl
  | 2, _ => rfl
  | 3, _ => simp [part4, nth4, word]; omega

theorem part4_lt {a b c d : Nat} (ha : a ≤ 255) (hb : b ≤ 255) (hc : c ≤ 255) (hd : d ≤ 255) (j : Nat) (hj : j < 4) : part4 a b c d j < 16777216 := by
  match j, hj with
  | 0, _ => simp [part4]
  | 1, _ => simp [part4]; omega
  | 2, _ => simp [part4]; omega
  | 3, _ => simp [part4]; omega

theorem or8 (n z : Nat) (hn : n < 16777216) (hz : z ≤ 255) : bits .or .u32 ((n : Int) * 256) (z : Int) = ((n * 256 + z : Nat) : Int) := by
  rw [show (n : Int) * 256 = ((n * 2 ^ 8 : Nat) : Int) by simp, or32r z n 8 (by omega) (by omega) (by omega)]
  congr 1
  omega

/-- What holds in the loop over the four bytes. -/
def LRel (a b c d : Nat) (n i : Value) : Prop := ∃ j : Nat, j ≤ 4 ∧ i = .int .i64 j ∧ n = .int .u32 (part4 a b c d j)

set_option maxRecDepth 100000 in
set_option maxHeartbeats 4000000 in
theorem model_word (F : Interp) (W : World) (x : Addr) (len cap : Nat) (off mx : Int) (o a b c d : Nat) (hF : F.answers W.tape) (h : len ≤ 1048576) (h0 : 0 ≤ off) (h1 : off ≤ 18446744073709551615) (ho : off % ((len : Int) + 1) = (o : Int)) (he : o + 4 ≤ len) (hcap : len ≤ cap)
    (ha : a ≤ 255) (hb : b ≤ 255) (hc : c ≤ 255) (hd : d ≤ 255)
    (k : ∀ j, j < 4 → W.cell? (x.add (o + j)) = some (.int .u8 (nth4 a b c d j))) :
    Calls Ybaf.prog 3 #[.slice (some x) len cap, .int .u64 off, .int .i64 mx] W fun e W' => e = .returned (.bool true) ∧ Below W.heap.size W W' := by
  have h' : ¬ (1048576 : Int) < len := by omega
  have he' : ¬ (len : Int) - o < 4 := by omega
  have hb0 := rdWorld_below W (.slice (some x) len cap) o
  have hr0 := rdWorld_rd W (some x) len cap o
  have hxl : x.block < W.heap.size := by
    have := block_lt_of_cell (k 0 (by omega))
    rwa [add_block] at this
  have hk0 : ∀ j, j < 4 → (rdWorld W (.slice (some x) len cap) o).cell? (x.add (o + j)) = some (.int .u8 (nth4 a b c d j)) := fun j hj => (hb0.cell (by rw [add_block]; exact hxl)).trans (k j hj)
  have hu := uint32_ok W.heap.size len cap x o _ a b c d ha hb hc hd hr0 h he hcap (by omega) (hk0 0 (by omega)) (hk0 1 (by omega)) (hk0 2 (by omega)) (hk0 3 (by omega))
  have hwl := word_lt ha hb hc hd
  have hnth : ∀ j, nth4 a b c d j ≤ 255 := fun j => by
    match j with
    | 0 => exact ha
    | 1 => exact hb
    | 2 => exact hc
    | (j + 3) => exact hd
  have hF0 : F.answers (rdWorld W (.slice (some x) len cap) o).tape := hF
  rcases Int.lt_or_le (mx % 4294967296) (word a b c d : Int) with hbig | hin
  · have hcall := length_big F W.heap.size (word a b c d) _ _ mx _ hF0 hwl hbig hu
    go_enter Ybaf.func3, Ybaf.ntmps3
    go_wp2_with (go_at_call 5; refine hcall.mono ?_)
    rintro e w1 ⟨⟨N, rfl⟩, hr1, hb1⟩
    have hbW : Below W.heap.size W w1 := hb0.trans hb1
    have hk1 : ∀ j, j < 4 → w1.cell? (x.add (o + j)) = some (.int .u8 (nth4 a b c d j)) := fun j hj => (hbW.cell (by rw [add_block]; exact hxl)).trans (k j hj)
    obtain ⟨c0, c1, fr, hlt⟩ := hr1
    clear hcall hb0 hr0 hb1 hu hk0 k
    go_wp2_with fail
    go_loop [11, 12] (fun n i => LRel a b c d n i) (fun _ i => 4 - (intOf i).toNat)
    case atStart => exact ⟨0, by omega, rfl, rfl⟩
    case round =>
      obtain ⟨j, hj, rfl, rfl⟩ := hrel
      rcases Nat.lt_or_ge j 4 with hj4 | hj4
      · have hj4' : (j : Int) < 4 := by omega
        have hcell := hk1 j hj4
        have hp := part4_lt ha hb hc hd j hj4
        have hor := or8 (part4 a b c d j) (nth4 a b c d j) hp (hnth j)
        rw [part4_step a b c d j hj4] at hor
        have hz := hnth j
        go_wp2_with fail
        exact ⟨⟨j + 1, by omega, rfl, rfl⟩, by simp [intOf]; omega⟩
      · obtain rfl : j = 4 := by omega
        have e4 : part4 a b c d 4 = word a b c d := rfl
        rw [e4]
        go_wp2_with fail
        go_ret
        exact ⟨rfl, hbW⟩
  · have hin' : ¬ mx % 4294967296 < (word a b c d : Int) := by omega
    have hcall := length_in W.heap.size (word a b c d) _ _ mx _ hwl hin hu
    go_enter Ybaf.func3, Ybaf.ntmps3
    go_wp2_with (go_at_call 5; refine hcall.mono ?_)
    rintro e w1 ⟨rfl, hr1, hb1⟩
    have hbW : Below W.heap.size W w1 := hb0.trans hb1
    have hk1 : ∀ j, j < 4 → w1.cell? (x.add (o + j)) = some (.int .u8 (nth4 a b c d j)) := fun j hj => (hbW.cell (by rw [add_block]; exact hxl)).trans (k j hj)
    obtain ⟨c0, c1, fr, hlt⟩ := hr1
    clear hcall hb0 hr0 hb1 hu hk0 k
    go_wp2_with fail
    go_loop [11, 12] (fun n i => LRel a b c d n i) (fun _ i => 4 - (intOf i).toNat)
    case atStart => exact ⟨0, by omega, rfl, rfl⟩
    case round =>
      obtain ⟨j, hj, rfl, rfl⟩ := hrel
      rcases Nat.lt_or_ge j 4 with hj4 | hj4
      · have hj4' : (j : Int) < 4 := by omega
        have hcell := hk1 j hj4
        have hp := part4_lt ha hb hc hd j hj4
        have hor := or8 (part4 a b c d j) (nth4 a b c d j) hp (hnth j)
        rw [part4_step a b c d j hj4] at hor
        have hz := hnth j
        go_wp2_with fail
        exact ⟨⟨j + 1, by omega, rfl, rfl⟩, by simp [intOf]; omega⟩
      · obtain rfl : j = 4 := by omega
        have e4 : part4 a b c d 4 = word a b c d := rfl
        rw [e4]
        go_wp2_with fail
        go_ret
        exact ⟨rfl, hbW⟩

theorem model_walk (F : Interp) (W : World) (a : Option Addr) (len cap : Nat) (zs : List Int) (off mx : Int) (hF : F.answers W.tape) (hB : IsBytes W a len cap zs) (w1 : (Lit.int .u64 off).wf = true) (w2 : (Lit.int .i64 mx).wf = true) :
    Calls Ybaf.prog 3 #[.slice a len cap, .int .u64 off, .int .i64 mx] W fun e W' => e = .returned (.bool true) ∧ Below W.heap.size W W' := by
  obtain ⟨h0, h1⟩ := bounds_u64 w1
  rcases Nat.lt_or_ge 1048576 len with hl | hl
  · exact model_large W a len cap off mx hl
  have hm0 := Int.emod_nonneg off (b := (len : Int) + 1) (by omega)
  have hm1 := Int.emod_lt_of_pos off (b := (len : Int) + 1) (by omega)
  obtain ⟨o, ho⟩ : ∃ o : Nat, off % ((len : Int) + 1) = (o : Int) := ⟨(off % ((len : Int) + 1)).toNat, by omega⟩
  have hol : o ≤ len := by omega
  rcases Nat.lt_or_ge len (o + 4) with he | he
  · exact model_early F W a len cap off mx o hF hl h0 h1 ho hol he
  rcases hB with ⟨_, h, _⟩ | ⟨x, rfl, hlc, hcm, hlen, hcell, hz⟩
  · omega
  have hbyte : ∀ j, j < len → ∃ z : Nat, z ≤ 255 ∧ W.cell? (x.add j) = some (.int .u8 z) := fun j hj => by
    have hjl : j < zs.length := by omega
    have hzj := hz zs[j] (List.getElem_mem hjl)
    refine ⟨zs[j].toNat, by omega, ?_⟩
    rw [hcell j hj, show zs.getD j 0 = zs[j] by simp [List.getD, hjl]]
    congr 2
    omega
  obtain ⟨b0, hb0, k0⟩ := hbyte o (by omega)
  obtain ⟨b1, hb1, k1⟩ := hbyte (o + 1) (by omega)
  obtain ⟨b2, hb2, k2⟩ := hbyte (o + 2) (by omega)
  obtain ⟨b3, hb3, k3⟩ := hbyte (o + 3) (by omega)
  refine model_word F W x len cap off mx o b0 b1 b2 b3 hF hl h0 h1 ho he hlc hb0 hb1 hb2 hb3 (fun j hj => ?_)
  match j, hj with
  | 0, _ => exact k0
  | 1, _ => exact k1
  | 2, _ => exact k2
  | 3, _ => exact k3

theorem modelProved : Rows.LawS5255AModelToldSaid := model_card (fun os st H enc => liftM model_walk os st H enc)

end Go.Proofs.YbulkdduqFmt

import Derived.Test.YbulkdducFmtMemberB
import Derived.Test.YbulkdducFmtNum
import Derived.Test.YbulkdducFmtIs
import Derived.Test.YbulkdducFmtMainM
import Derived.Test.YbulkdducFmtLiftB
namespace Go.Proofs.YbulkdducFmt
open Go.RowKit Go.Extern.Stop Go.Stop Go.Extern
set_option linter.unusedVariables false

theorem names_unique {l : List UInt8} {m a b : Nat} (hm : m ≤ 300) (h1 : Names l m a) (h2 : Names l m b) : a = b := by
  have := h1.2.symm.trans h2.2
  injection this with _ this
  have := dec_inj (by have := h1.1; omega) (by have := h2.1; omega) this
  omega

set_option maxRecDepth 100000 in
set_option maxHeartbeats 2000000 in
theorem model_form (W : World) (aF : Addr) (n : Int) (m : Nat) (a : Option Addr) (len cap : Nat) (hn0 : 0 ≤ n) (hn1 : n ≤ 65535) (hm : n % 301 = (m : Int)) (hf : W.cell? ⟨0, 0, none⟩ = some (.iface 82 (.pointer (some aF)))) (hl : len ≠ 2) :
    Calls Ybaf.prog 3 #[.int .u16 n, .slice a len cap] W fun e W' => e = .returned (.bool true) ∧ Below W.heap.size W W' := by
  have hl' : ¬ (len : Int) = 2 := by omega
  have hz : 0 < W.heap.size := block_lt_of_cell hf
  rcases Nat.lt_or_ge 1024 len with h | h
  · have h' : (1024 : Int) < len := by omega
    go_enter Ybaf.func3, Ybaf.ntmps3
    go_wp2_with fail
    go_ret
    exact ⟨rfl, Below.refl _ _⟩
  have h' : ¬ (1024 : Int) < len := by omega
  have hb0 := parWorld_below W m 0 0
  have hp0 := parWorld_pars W m 0 0
  have hcall := pairOf_form W.heap.size a len cap aF (parWorld W m 0 0) hl ((hb0.cell (p := ⟨0, 0, none⟩) hz).trans hf)
  go_enter Ybaf.func3, Ybaf.ntmps3
  go_wp2_with (go_at_call 7; refine hcall.mono ?_)
  rintro e w2 rfl hb
  have hb2 : Below W.heap.size W w2 := hb0.trans (hb.mono hb0.size)
  have hf2 := (hb2.cell (p := ⟨0, 0, none⟩) hz).trans hf
  have hp2 := hp0.on hb
  have c0 := hp2.c0
  have hlt := hp2.lt
  have hz2 : 0 < w2.heap.size := Nat.lt_of_lt_of_le hz hb2.size
  clear hcall hf hb hp0 hb0 hp2
  go_wp2_with (go_at_call 8; refine (is_same aF _).mono ?_; rintro e w' ⟨rfl, rfl⟩)
  go_ret
  exact ⟨rfl, hb2.alloc hb2.size _⟩

set_option maxRecDepth 100000 in
set_option maxHeartbeats 4000000 in
theorem model_err (W : World) (aF : Addr) (sF : ByteArray) (n : Int) (m : Nat) (x : Addr) (cap : Nat) (s0 s1 : ByteArray) (hn0 : 0 ≤ n) (hn1 : n ≤ 65535) (hm : n % 301 = (m : Int)) (hf : W.cell? ⟨0, 0, none⟩ = some (.iface 82 (.pointer (some aF)))) (hF : W.cell? aF = some (.string sF))
    (hs0 : W.cell? x = some (.string s0)) (hs1 : W.cell? (x.add 1) = some (.string s1)) (hz0 : s0.size ≤ reachBytes) (hz1 : s1.size ≤ reachBytes) (hc : 2 ≤ cap)
    (hE : ∀ a b, Names s0.data.toList m a → Names s1.data.toList m b → a = b)
    (hcall : Calls Ybaf.prog 7 #[.pointer (some ⟨W.heap.size, 0, none⟩), .slice (some x) 2 cap] (parWorld W m 0 0) (PairErr (parWorld W m 0 0))) :
    Calls Ybaf.prog 3 #[.int .u16 n, .slice (some x) 2 cap] W fun e W' => e = .returned (.bool true) ∧ Below W.heap.size W W' := by
  have hzz : 0 < W.heap.size := block_lt_of_cell hf
  have hz0' : s0.size ≤ 9223372036854775806 := by unfold reachBytes at hz0; omega
  have hz1' : s1.size ≤ 9223372036854775806 := by unfold reachBytes at hz1; omega
  have hb0 := parWorld_below W m 0 0
  have hp0 := parWorld_pars W m 0 0
  have hm300 : m ≤ 300 := by omega
  go_enter Ybaf.func3, Ybaf.ntmps3
  go_wp2_with (go_at_call 7; refine hcall.mono ?_)
  rintro e w2 ⟨⟨N, c, ty, rfl, hN, hcc⟩, hb⟩
  have hb2 : Below W.heap.size W w2 := hb0.trans (hb.mono hb0.size)
  have hk := laidKey_below w2 0 0
  have hf2 := (hb2.cell (p := ⟨0, 0, none⟩) hzz).trans hf
  have hF2 := (hb2.cell (block_lt_of_cell hF)).trans hF
  have hs02 := (hb2.cell (block_lt_of_cell hs0)).trans hs0
  have hs12 : w2.cell? ⟨x.block, x.off + 1, none⟩ = some (.string s1) := (hb2.cell (block_lt_of_cell hs1)).trans hs1
  have hx2 := block_lt_of_cell hs02
  have hne : N ≠ aF.block := by have := block_lt_of_cell hF; have := hb0.size; omega
  have hNlt : N < w2.heap.size := by
    rcases Nat.lt_or_ge N w2.heap.size with h1 | h1
    · exact h1
    · rw [Array.getElem?_eq_none h1] at hcc; cases hcc
  have hq := neq_new (w := laidKey w2 0 0) hne ((hk.block N hNlt).trans hcc) ((hk.cell (block_lt_of_cell hF2)).trans hF2)
  simp only [laidKey] at hq
  have hp2 := hp0.on hb
  have c0 := hp2.c0
  have hlt := hp2.lt
  have hz2 : 0 < w2.heap.size := Nat.lt_of_lt_of_le hzz hb2.size
  have hbE : ∀ o, Below W.heap.size W (w2.alloc o) := fun o => hb2.alloc hb2.size o
  clear hcall hf hb hp0 hb0 hp2 hF hF2 hs0 hs1 hcc hk hb2
  rcases Nat.eq_zero_or_pos m with hm0 | hm1
  · subst hm0
    go_wp2_with fail
    go_ret
    exact ⟨rfl, hbE _⟩
  have hm0 : ¬ (m : Int) = 0 := by omega
  go_wp2_with (go_at_call 9; refine (bnum_walk s0 m _ hz0' hm300).mono ?_)
  rintro e w3 ⟨he, hw3⟩
  rcases he with ⟨rfl, hA⟩ | ⟨a, rfl, hA⟩
  · subst hw3
    go_wp2_with (go_at_call 9; refine (bnum_walk s1 m _ hz1' hm300).mono ?_)
    rintro e w4 ⟨he, hw4⟩
    subst hw4
    rcases he with ⟨rfl, hB⟩ | ⟨b, rfl, hB⟩
    · go_wp2_with fail
      go_ret
      exact ⟨rfl, hbE _⟩
    · go_wp2_with fail
      go_ret
      exact ⟨rfl, hbE _⟩
  · subst hw3
    go_wp2_with (go_at_call 9; refine (bnum_walk s1 m _ hz1' hm300).mono ?_)
    rintro e w4 ⟨he, hw4⟩
    subst hw4
    rcases he with ⟨rfl, hB⟩ | ⟨b, rfl, hB⟩
    · go_wp2_with fail
      go_ret
      exact ⟨rfl, hbE _⟩
    · obtain rfl := hE a b hA hB
      go_wp2_with fail
      go_ret
      exact ⟨rfl, hbE _⟩

set_option maxRecDepth 100000 in
set_option maxHeartbeats 4000000 in
theorem model_two (W : World) (n : Int) (m a b : Nat) (x : Addr) (cap : Nat) (s0 s1 : ByteArray) (hn0 : 0 ≤ n) (hn1 : n ≤ 65535) (hm : n % 301 = (m : Int))
    (hs0 : W.cell? x = some (.string s0)) (hs1 : W.cell? (x.add 1) = some (.string s1)) (hz0 : s0.size ≤ reachBytes) (hz1 : s1.size ≤ reachBytes) (hc : 2 ≤ cap) (hA : Names s0.data.toList m a) (hB : Names s1.data.toList m b) (hab : a ≠ b) (hT : Tab W) :
    Calls Ybaf.prog 3 #[.int .u16 n, .slice (some x) 2 cap] W fun e W' => e = .returned (.bool true) ∧ Below W.heap.size W W' := by
  have hz0' : s0.size ≤ 9223372036854775806 := by unfold reachBytes at hz0; omega
  have hz1' : s1.size ≤ 9223372036854775806 := by unfold reachBytes at hz1; omega
  have hm300 : m ≤ 300 := by omega
  have hm1 : 1 ≤ m := by have := hA.1; omega
  have hm0 : ¬ (m : Int) = 0 := by omega
  have hb0 := parWorld_below W m 0 0
  have hp0 := parWorld_pars W m 0 0
  have hs01 := (hb0.cell (block_lt_of_cell hs0)).trans hs0
  have hs11 := (hb0.cell (block_lt_of_cell hs1)).trans hs1
  have hcall := pairOf_ok W.heap.size a b x cap s0 s1 (parWorld W m 0 0) hs01 hs11 (memIs_of hp0.c0 hA.2 hA.1 hm300 (hT.on hb0)) (memIs_of hp0.c0 hB.2 hB.1 hm300 (hT.on hb0)) hab hc
  go_enter Ybaf.func3, Ybaf.ntmps3
  go_wp2_with (go_at_call 7; refine hcall.mono ?_)
  rintro e w2 ⟨rfl, hb⟩
  have hb2 : Below W.heap.size W w2 := hb0.trans (hb.mono hb0.size)
  have hs02 := (hb2.cell (block_lt_of_cell hs0)).trans hs0
  have hs12 : w2.cell? ⟨x.block, x.off + 1, none⟩ = some (.string s1) := (hb2.cell (block_lt_of_cell hs1)).trans hs1
  have hx2 := block_lt_of_cell hs02
  have hp2 := hp0.on hb
  have c0 := hp2.c0
  have hlt := hp2.lt
  have hbE : ∀ o, Below W.heap.size W (w2.alloc o) := fun o => hb2.alloc hb2.size o
  clear hcall hb hp0 hb0 hp2 hs0 hs1 hb2 hs01 hs11
  have hab' : ¬ (a : Int) = b := by omega
  go_wp2_with (go_at_call 9; refine (bnum_walk s0 m _ hz0' hm300).mono ?_)
  rintro e w3 ⟨he, hw3⟩
  subst hw3
  rcases he with ⟨rfl, hN⟩ | ⟨a', rfl, hA'⟩
  · exact absurd hA (hN a)
  obtain rfl := names_unique hm300 hA hA'
  go_wp2_with (go_at_call 9; refine (bnum_walk s1 m _ hz1' hm300).mono ?_)
  rintro e w4 ⟨he, hw4⟩
  subst hw4
  rcases he with ⟨rfl, hN⟩ | ⟨b', rfl, hB'⟩
  · exact absurd hB (hN b)
  obtain rfl := names_unique hm300 hB hB'
  clear hA hA' hB hB'
  rcases Nat.lt_or_ge b a with hba | hba
  · have hba' : (b : Int) < a := by omega
    have e1 : min (a : Int) b = b := by omega
    have e2 : max (a : Int) b = a := by omega
    rw [e1, e2]
    go_wp2_with fail
    go_ret
    exact ⟨rfl, hbE _⟩
  · have hba' : ¬ (b : Int) < a := by omega
    have e1 : min (a : Int) b = a := by omega
    have e2 : max (a : Int) b = b := by omega
    rw [e1, e2]
    go_wp2_with fail
    go_ret
    exact ⟨rfl, hbE _⟩

theorem model_walkB (F : Interp) (W : World) (aR aS aF : Addr) (n : Int) (a : Option Addr) (len cap : Nat) (ss : List ByteArray) (hF : F.answers W.tape) (hV : Vars W aR aS aF) (hT : Tab W) (wn : (Lit.int .u16 n).wf = true) (hA : IsStrs W a len cap ss) :
    Calls Ybaf.prog 3 #[.int .u16 n, .slice a len cap] W fun e W' => e = .returned (.bool true) ∧ Below W.heap.size W W' := by
  obtain ⟨hn0, hn1⟩ := bounds_u16 wn
  have hf := form_cell hV.form
  obtain ⟨sF, hsF⟩ := hV.cell
  obtain ⟨m, hm⟩ : ∃ m : Nat, n % 301 = (m : Int) := ⟨(n % 301).toNat, by omega⟩
  have hm300 : m ≤ 300 := by omega
  by_cases hl : len = 2
  · subst hl
    rcases hA with ⟨_, h, _⟩ | ⟨x, rfl, hlc, hcm, hlen, hcell, hsz⟩
    · cases h
    obtain ⟨s0, s1, r, rfl⟩ : ∃ s0 s1 r, ss = s0 :: s1 :: r := by
      match ss, hlen with
      | [], h => simp at h; omega
      | [_], h => simp at h; omega
      | s0 :: s1 :: r, _ => exact ⟨s0, s1, r, rfl⟩
    have hs0 : W.cell? x = some (.string s0) := hcell 0 (by simp)
    have hs1 : W.cell? (x.add 1) = some (.string s1) := hcell 1 (by simp)
    have hz0 := hsz s0 (by simp)
    have hz1 := hsz s1 (by simp)
    have hb0 := parWorld_below W m 0 0
    have hp0 := parWorld_pars W m 0 0
    have hF1 : F.answers (parWorld W m 0 0).tape := hF
    have hs01 := (hb0.cell (block_lt_of_cell hs0)).trans hs0
    have hs11 := (hb0.cell (block_lt_of_cell hs1)).trans hs1
    have hvS := var_below hb0 hV.syn
    have hvR := var_below hb0 hV.range
    have hT0 := hT.on hb0
    rcases Nat.eq_zero_or_pos m with hm0 | hm1
    · have c0 := hp0.c0
      have hno : ∀ (l : List UInt8) a, ¬ Names l m a := fun l a h => by have := h.1; omega
      refine model_err W aF sF n m x cap s0 s1 hn0 hn1 hm hf hsF hs0 hs1 hz0 hz1 hlc (fun a b ha _ => absurd ha (hno _ _)) ?_
      exact pairOf_first F W.heap.size x cap s0 _ hs01 (memNo_zero hF1 (by rw [hm0] at c0 ⊢; exact c0)) hlc
    · by_cases hN0 : ∃ a, Names s0.data.toList m a
      · obtain ⟨a, hA⟩ := hN0
        have hMA := memIs_of hp0.c0 hA.2 hA.1 hm300 hT0
        by_cases hN1 : ∃ b, Names s1.data.toList m b
        · obtain ⟨b, hB⟩ := hN1
          by_cases hab : a = b
          · subst hab
            refine model_err W aF sF n m x cap s0 s1 hn0 hn1 hm hf hsF hs0 hs1 hz0 hz1 hlc (fun a' b' ha' hb' => (names_unique hm300 ha' hA).trans (names_unique hm300 hB hb')) ?_
            exact pairOf_same F W.heap.size a x cap s0 s1 _ hF1 hs01 hs11 hMA (memIs_of hp0.c0 hB.2 hB.1 hm300 hT0) hlc
          · exact model_two W n m a b x cap s0 s1 hn0 hn1 hm hs0 hs1 hz0 hz1 hlc hA hB hab hT
        · refine model_err W aF sF n m x cap s0 s1 hn0 hn1 hm hf hsF hs0 hs1 hz0 hz1 hlc (fun a b _ hb => absurd ⟨b, hb⟩ hN1) ?_
          exact pairOf_second F W.heap.size a x cap s0 s1 _ hs01 hs11 hMA (memNo_of hF1 hp0.c0 hm1 hm300 hz1 (fun b hb => hN1 ⟨b, hb⟩) hT0 hvS hvR) hlc
      · refine model_err W aF sF n m x cap s0 s1 hn0 hn1 hm hf hsF hs0 hs1 hz0 hz1 hlc (fun a b ha _ => absurd ⟨a, ha⟩ hN0) ?_
        exact pairOf_first F W.heap.size x cap s0 _ hs01 (memNo_of hF1 hp0.c0 hm1 hm300 hz0 (fun b hb => hN0 ⟨b, hb⟩) hT0 hvS hvR) hlc
  · exact model_form W aF n m a len cap hn0 hn1 hm hf hl

theorem bmodelProved : Rows.LawS5254BModelToldSaid := bmodel_card (fun os st H enc => liftB model_walkB os st H enc)

end Go.Proofs.YbulkdducFmt

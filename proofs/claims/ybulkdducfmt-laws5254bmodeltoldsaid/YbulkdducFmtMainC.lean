import Derived.Test.YbulkdducFmtWalkC2
import Derived.Test.YbulkdducFmtFreshC
import Derived.ChangeBears2
import Derived.LaidEql
namespace Go.Proofs.YbulkdducFmt
open Go.RowKit Go.Extern.Stop Go.Stop Go.Extern
set_option linter.unusedVariables false

theorem Pars.on {w w' : World} {P : Nat} {mem ln ml : Int} {f : Value} (h : Pars w P mem ln ml f) (hb : Below w.heap.size w w') : Pars w' P mem ln ml f :=
  ⟨(hb.cell h.lt).trans h.c0, (hb.cell h.lt).trans h.c1, (hb.cell h.lt).trans h.c3, (hb.cell h.lt).trans h.c5, (hb.cell h.lt).trans h.c7, fun o => (hb.frozen (p := ⟨P, o, none⟩) h.lt).trans (h.fr o), Nat.lt_of_lt_of_le h.lt hb.size⟩

theorem Pars.unchanged {w : World} {P : Nat} {mem ln ml : Int} (h : Pars w P mem ln ml (.slice none 0 0)) : Calls Ybaf.prog 12 #[.pointer (some ⟨P, 0, none⟩), .int .i64 mem, .int .i64 ln, .int .i64 ml] w fun e w' => e = .returned (.bool true) ∧ w' = w :=
  unchanged_walk P mem ln ml w h.c0 h.c1 h.c3 h.c5 h.c7

theorem pars_new (w : World) (mem ln ml : Int) (v2 v4 v6 v8 v9 : Value) (t : TypeId) : Pars (w.alloc (.cells #[.int .i64 mem, .slice none 0 0, v2, .int .i64 ln, v4, .int .i64 ml, v6, .slice none 0 0, v8, v9] t)) w.heap.size mem ln ml (.slice none 0 0) :=
  ⟨by go_simp, by go_simp, by go_simp, by go_simp, by go_simp, fun o => by go_simp, by simp⟩

theorem ok_pars {w : World} {P n : Nat} {mem ln ml : Int} {f : Value} (h : Pars w P mem ln ml f) : Pars (okWorld w P n ln) P n ln ln (.slice (some ⟨w.heap.size, 0, none⟩) n n) := by
  have hlt := h.lt
  obtain ⟨c0, c1, c3, c5, c7, fr, _⟩ := h
  refine ⟨?_, ?_, ?_, ?_, ?_, ?_, ?_⟩
  all_goals unfold okWorld
  · go_simp
  · go_simp
  · go_simp
  · go_simp
  · go_simp
  · intro o
    have := fr o
    go_simp
  · simp; omega

theorem ok_fates {w : World} {P n : Nat} {ln : Int} (hn : n ≤ 65535) : Fates (okWorld w P n ln) w.heap.size n := by
  have hs : (FK n).size = n * 2 := size_madeCells _ _
  have h0 : ∀ i, i < n → (FK n)[i * 2]? = some (.bool false) := fun i hi => by
    unfold FK madeCells
    simp [show i * 2 < n * 2 by omega]
  have h1 : ∀ i, i < n → (FK n)[i * 2 + 1]? = some (.int .i64 0) := fun i hi => by
    unfold FK madeCells
    simp [show i * 2 + 1 < n * 2 by omega, show (i * 2 + 1) % 2 = 1 by omega]
  refine ⟨fun i hi => ?_, fun i hi => ?_⟩ <;> unfold okWorld
  · have := h0 i hi
    go_simp
    exact Option.some.inj ((Array.getElem?_eq_getElem (by rw [hs]; omega)).symm.trans this)
  · have := h1 i hi
    go_simp

theorem ok_below {W w : World} {P n : Nat} {ln : Int} (h : Below W.heap.size W w) (hP : W.heap.size ≤ P) : Below W.heap.size W (okWorld w P n ln) := by
  unfold okWorld
  refine (((h.setCell hP _).setCell hP _).setCell hP _).alloc ?_ _
  have := h.size
  simp; omega

theorem form_cell {W : World} {aF : Addr} (h : W.var? Ybaf.prog formName = some #[.iface 82 (.pointer (some aF))]) : W.cell? ⟨0, 0, none⟩ = some (.iface 82 (.pointer (some aF))) :=
  (var?_cell (g := 0) (by kernel_rfl) h 0).trans rfl

theorem comp82 : (Ybaf.prog.info? 82).map (·.comparable) = some true := by kernel_rfl
theorem size84 : (Ybaf.prog.info? 84).map (·.size) = some 1 := by kernel_rfl

theorem eql_same (a : Addr) (w : World) : (binOp .eql 35 (.iface 82 (.pointer (some a))) (.iface 82 (.pointer (some a)))).run Ybaf.prog w = .ok (.bool true) w := by
  obtain ⟨i, hi, hcmp⟩ := Option.map_eq_some_iff.1 comp82
  obtain ⟨j, hj, _⟩ := Option.map_eq_some_iff.1 size84
  exact run_eql_iface_ptr_same w a Ybaf.underlying35 Ybaf.underlying82 hi hcmp hj

theorem cells_of_cell {w : World} {a : Addr} {v : Value} (h : w.cell? a = some v) : ∃ c t f, w.heap[a.block]? = some (.cells c t f) ∧ c.size ≠ 0 := by
  unfold World.cell? at h
  split at h
  · rename_i c t f hh
    split at h
    · cases h
    · refine ⟨c, t, f, hh, fun e => ?_⟩
      rw [Array.getElem?_eq_none (by omega)] at h
      cases h
  · cases h

theorem sameAddr_new {P : Program} {w : World} {a b : Addr} {c : Array Value} {t : TypeId} {v : Value} (hne : a.block ≠ b.block) (ha : w.heap[a.block]? = some (.cells c t (0, 0))) (hb : w.cell? b = some v) : (sameAddr a b).run P w = .ok false w := by
  obtain ⟨c', t', ⟨lo, hi⟩, hh, hz⟩ := cells_of_cell hb
  simp [sameAddr, hne, World.frozen?, ha, hh, noView, viewAt, World.shape?, mayBeOne, stringish]
  obtain ⟨k, hk⟩ : ∃ k, c'.size = k + 1 := ⟨c'.size - 1, by omega⟩
  rw [hk]
  simp

theorem neq_new {w : World} {N : Nat} {b : Addr} {c : Array Value} {t : TypeId} {v : Value} (hne : N ≠ b.block) (ha : w.heap[N]? = some (.cells c t (0, 0))) (hb : w.cell? b = some v) : (binOp .neq 35 (.iface 82 (.pointer (some ⟨N, 0, none⟩))) (.iface 82 (.pointer (some b)))).run Ybaf.prog w = .ok (.bool true) w := by
  obtain ⟨i, hi, hcmp⟩ := Option.map_eq_some_iff.1 comp82
  obtain ⟨j, hj, hjs⟩ := Option.map_eq_some_iff.1 size84
  have hx : ∀ d, (Op.equalIn (d + 2) 35 (.iface 82 (.pointer (some ⟨N, 0, none⟩))) (.iface 82 (.pointer (some b)))).run Ybaf.prog w = .ok false w := fun d => by
    simp [Op.equalIn, run_underlying Ybaf.underlying35, run_underlying Ybaf.underlying82, typeInfo, hi, hcmp, sizeOf, hj, hjs, sameAddr_new (P := Ybaf.prog) (a := ⟨N, 0, none⟩) hne ha hb]
  simp only [binOp]
  simp [Op.equal, Op.maxDepth, hx 9998]

set_option maxRecDepth 100000 in
set_option maxHeartbeats 2000000 in
theorem law_form (F : Interp) (W : World) (aF : Addr) (a : Option Addr) (len cap : Nat) (pr ln ml : Int) (hf : W.cell? ⟨0, 0, none⟩ = some (.iface 82 (.pointer (some aF)))) (hn : len ≠ 1) :
    Calls Ybaf.prog 5 #[.slice a len cap, .int .i64 pr, .int .i64 ln, .int .i64 ml] W fun e W' => e = .returned (.bool true) ∧ Below W.heap.size W W' := by
  have hn' : ¬ (len : Int) = 1 := by omega
  rcases Nat.lt_or_ge 1024 len with h | h
  · have h' : (1024 : Int) < len := by omega
    go_enter Ybaf.func5, Ybaf.ntmps5
    go_wp2_with fail
    go_ret
    exact ⟨rfl, Below.refl _ _⟩
  · have h' : ¬ (1024 : Int) < len := by omega
    have h0 : 0 < W.heap.size := block_lt_of_cell hf
    go_enter Ybaf.func5, Ybaf.ntmps5
    have heq := eql_same aF
    have hp := pars_new W pr ln ml (.int .i64 0) (.int .i64 0) (.bool false) (.map none) (.bool false) 32
    go_wp2_with (first
      | (go_at_call 11; refine (members_form F _ _ _ _ aF _ hn (by go_simp)).mono ?_; rintro e w' ⟨rfl, rfl⟩)
      | (go_at_call 12; refine hp.unchanged.mono ?_; rintro e w' ⟨rfl, rfl⟩))
    go_ret
    exact ⟨rfl, (Below.refl _ _).alloc (Nat.le_refl _) _⟩

/-- The world in which the parser is made. -/
def parWorld (W : World) (pr ln ml : Int) : World := W.alloc (.cells #[.int .i64 pr, .slice none 0 0, .int .i64 0, .int .i64 ln, .int .i64 0, .int .i64 ml, .bool false, .slice none 0 0, .map none, .bool false] 32)

theorem parWorld_below (W : World) (pr ln ml : Int) : Below W.heap.size W (parWorld W pr ln ml) := (Below.refl _ _).alloc (Nat.le_refl _) _
theorem parWorld_pars (W : World) (pr ln ml : Int) : Pars (parWorld W pr ln ml) W.heap.size pr ln ml (.slice none 0 0) := pars_new W pr ln ml (.int .i64 0) (.int .i64 0) (.bool false) (.map none) (.bool false) 32

set_option maxRecDepth 100000 in
set_option maxHeartbeats 2000000 in
theorem law_second (W : World) (aF : Addr) (sF : ByteArray) (a : Option Addr) (cap : Nat) (pr ln ml : Int) (hf : W.cell? ⟨0, 0, none⟩ = some (.iface 82 (.pointer (some aF)))) (hF : W.cell? aF = some (.string sF)) (h0 : 0 < pr)
    (hcall : Calls Ybaf.prog 11 #[.pointer (some ⟨W.heap.size, 0, none⟩), .slice a 1 cap] (parWorld W pr ln ml) (NewErr (parWorld W pr ln ml))) :
    Calls Ybaf.prog 5 #[.slice a 1 cap, .int .i64 pr, .int .i64 ln, .int .i64 ml] W fun e W' => e = .returned (.bool true) ∧ Below W.heap.size W W' := by
  have hz : 0 < W.heap.size := block_lt_of_cell hf
  have hb0 := parWorld_below W pr ln ml
  have hp0 := parWorld_pars W pr ln ml
  go_enter Ybaf.func5, Ybaf.ntmps5
  go_wp2_with (go_at_call 11; refine hcall.mono ?_)
  rintro e w2 ⟨⟨N, c, ty, rfl, hN, hc⟩, hb⟩
  have hb2 : Below W.heap.size W w2 := hb0.trans (hb.mono hb0.size)
  have hf2 := (hb2.cell (p := ⟨0, 0, none⟩) hz).trans hf
  have hF2 := (hb2.cell (block_lt_of_cell hF)).trans hF
  have hne : N ≠ aF.block := by have := block_lt_of_cell hF; have := hb0.size; omega
  have hq := neq_new hne hc hF2
  have hp2 := hp0.on hb
  clear hcall hc hF hF2 hf hb hp0 hb0
  go_wp2_with (go_at_call 12; refine hp2.unchanged.mono ?_; rintro e w' ⟨rfl, rfl⟩)
  go_ret
  exact ⟨rfl, hb2⟩

set_option maxRecDepth 100000 in
set_option maxHeartbeats 2000000 in
theorem law_bad (W : World) (aF : Addr) (sF : ByteArray) (x : Addr) (cap : Nat) (s : ByteArray) (pr ln ml : Int) (hf : W.cell? ⟨0, 0, none⟩ = some (.iface 82 (.pointer (some aF)))) (hF : W.cell? aF = some (.string sF)) (h0 : pr ≤ 0) (hs : W.cell? x = some (.string s)) (hz : s.size ≤ reachBytes)
    (hm : Bad s.data.toList)
    (hcall : Calls Ybaf.prog 11 #[.pointer (some ⟨W.heap.size, 0, none⟩), .slice (some x) 1 cap] (parWorld W pr ln ml) (NewErr (parWorld W pr ln ml))) :
    Calls Ybaf.prog 5 #[.slice (some x) 1 cap, .int .i64 pr, .int .i64 ln, .int .i64 ml] W fun e W' => e = .returned (.bool true) ∧ Below W.heap.size W W' := by
  have hz' : s.size ≤ 9223372036854775806 := by unfold reachBytes at hz; omega
  have h0' : ¬ 0 < pr := by omega
  have hzz : 0 < W.heap.size := block_lt_of_cell hf
  have hb0 := parWorld_below W pr ln ml
  have hp0 := parWorld_pars W pr ln ml
  go_enter Ybaf.func5, Ybaf.ntmps5
  go_wp2_with (go_at_call 11; refine hcall.mono ?_)
  rintro e w2 ⟨⟨N, c, ty, rfl, hN, hc⟩, hb⟩
  have hb2 : Below W.heap.size W w2 := hb0.trans (hb.mono hb0.size)
  have hf2 := (hb2.cell (p := ⟨0, 0, none⟩) hzz).trans hf
  have hF2 := (hb2.cell (block_lt_of_cell hF)).trans hF
  have hs2 := (hb2.cell (block_lt_of_cell hs)).trans hs
  have hne : N ≠ aF.block := by have := block_lt_of_cell hF; have := hb0.size; omega
  have hq := neq_new hne hc hF2
  have hp2 := hp0.on hb
  clear hcall hc hF hF2 hf hb hp0 hb0 hs
  go_wp2_with (go_at_call 13; refine (model_walk s _ hz').mono ?_)
  rintro e w' ⟨he, rfl⟩
  rcases he with ⟨rfl, _⟩ | ⟨n, n1, n2, rfl, hn⟩
  · go_wp2_with (go_at_call 12; refine hp2.unchanged.mono ?_; rintro e w' ⟨rfl, rfl⟩)
    go_ret
    exact ⟨rfl, hb2⟩
  · exfalso
    have := hm _ hn
    omega

set_option maxRecDepth 100000 in
set_option maxHeartbeats 2000000 in
theorem law_ok (W : World) (x : Addr) (cap : Nat) (s : ByteArray) (pr ln ml : Int) (n : Nat) (hz1 : W.heap.size ≠ 0) (h0 : pr ≤ 0) (hs : W.cell? x = some (.string s)) (hz : s.size ≤ reachBytes)
    (hend : Lib.atoiAll s.data.toList = .ok (n : Int)) (h1 : 1 ≤ n) (h2 : n ≤ 65535) :
    Calls Ybaf.prog 5 #[.slice (some x) 1 cap, .int .i64 pr, .int .i64 ln, .int .i64 ml] W fun e W' => e = .returned (.bool true) ∧ Below W.heap.size W W' := by
  have hz' : s.size ≤ 9223372036854775806 := by unfold reachBytes at hz; omega
  have h0' : ¬ 0 < pr := by omega
  have hb0 := parWorld_below W pr ln ml
  have hp0 := parWorld_pars W pr ln ml
  have hcall := members_ok W.heap.size x cap s pr ln ml n (parWorld W pr ln ml) h0 hp0 ((hb0.cell (block_lt_of_cell hs)).trans hs) hz hend h1 h2
  go_enter Ybaf.func5, Ybaf.ntmps5
  go_wp2_with (go_at_call 11; refine hcall.mono ?_)
  rintro e w2 rfl w1 hb hw2
  have hp1 := ok_pars (n := n) (hp0.on hb)
  rw [← hw2] at hp1
  have hfat : Fates w2 w1.heap.size n := by rw [hw2]; exact ok_fates h2
  have hb2 : Below W.heap.size W w2 := by rw [hw2]; exact ok_below (hb0.trans (hb.mono hb0.size)) (Nat.le_refl _)
  have hs2 := (hb2.cell (block_lt_of_cell hs)).trans hs
  have hfr := fresh_walk w1.heap.size n w2 h2 hfat
  obtain ⟨c0, c1, c3, c5, c7, fr, hlt⟩ := hp1
  clear hcall hb hp0 hb0 hs hw2 hfat
  go_wp2_with (go_at_call 13; refine (model_walk s _ hz').mono ?_)
  rintro e w' ⟨he, rfl⟩
  rcases he with ⟨rfl, hm⟩ | ⟨n', n1, n2, rfl, hn⟩
  · exfalso
    have := hm _ hend
    omega
  · obtain rfl : n' = n := by
      have := hn.symm.trans hend
      injection this with this
      omega
    go_wp2_with (go_at_call 14; refine hfr.mono ?_; rintro e w' ⟨rfl, rfl⟩)
    go_ret
    exact ⟨rfl, hb2⟩

theorem law_walk (F : Interp) (W : World) (aR aS aF : Addr) (a : Option Addr) (len cap : Nat) (ss : List ByteArray) (pr ln ml : Int) (hF : F.answers W.tape) (hV : Vars W aR aS aF) (hA : IsStrs W a len cap ss) (h1 : (Lit.int .i64 pr).wf = true) (h2 : (Lit.int .i64 ln).wf = true) (h3 : (Lit.int .i64 ml).wf = true) :
    Calls Ybaf.prog 5 #[.slice a len cap, .int .i64 pr, .int .i64 ln, .int .i64 ml] W fun e W' => e = .returned (.bool true) ∧ Below W.heap.size W W' := by
  have hf := form_cell hV.form
  obtain ⟨sF, hsF⟩ := hV.cell
  by_cases hn : len = 1
  · subst hn
    rcases hA with ⟨_, h, _⟩ | ⟨x, rfl, hl, hm, hlen, hcell, hsz⟩
    · cases h
    · have h0 : 0 < ss.length := by omega
      have hs0 := hcell 0 h0
      obtain ⟨s, hs⟩ : ∃ s, s = ss.getD 0 ByteArray.empty := ⟨_, rfl⟩
      rw [← hs] at hs0
      have hs1 : W.cell? x = some (.string s) := hs0
      have hz : s.size ≤ reachBytes := hsz s (by
        cases ss with
        | nil => cases h0
        | cons y r => simp at hs; simp [hs])
      have hb0 := parWorld_below W pr ln ml
      have hp0 := parWorld_pars W pr ln ml
      have hF1 : F.answers (parWorld W pr ln ml).tape := hF
      have hs2 := (hb0.cell (block_lt_of_cell hs1)).trans hs1
      have hvS := var_below hb0 hV.syn
      have hvR := var_below hb0 hV.range
      rcases Int.lt_or_le 0 pr with hp | hp
      · exact law_second W aF sF _ cap pr ln ml hf hsF hp (members_second F _ _ cap pr ml _ hF1 hp hp0.c0 hp0.c5 hp0.lt)
      · cases hat : Lib.atoiAll s.data.toList
        case range => exact law_bad W aF sF x cap s pr ln ml hf hsF hp hs1 hz (fun v hv => by rw [hat] at hv; cases hv) (members_range F _ x cap s pr aR _ hF1 hp hp0.c0 hs2 hz hat hvR)
        case ok v =>
          by_cases hv : v < 1 ∨ 65535 < v
          · exact law_bad W aF sF x cap s pr ln ml hf hsF hp hs1 hz (fun v' hv' => by rw [hat] at hv'; injection hv' with hv'; omega) (members_out F _ x cap s pr v _ hF1 hp hp0.c0 hs2 hz hat hv)
          · obtain ⟨n, rfl⟩ : ∃ n : Nat, v = n := ⟨v.toNat, by omega⟩
            have := block_lt_of_cell hf
            exact law_ok W x cap s pr ln ml n (by omega) hp hs1 hz hat (by omega) (by omega)
        all_goals exact law_bad W aF sF x cap s pr ln ml hf hsF hp hs1 hz (fun v hv => by rw [hat] at hv; cases hv) (members_nonum F _ x cap s pr aS _ hF1 hp hp0.c0 hs2 hz hat hvS)
  · exact law_form F W aF a len cap pr ln ml hf hn

theorem cmodelProved : Rows.LawS5254CModelToldSaid := cmodel_card (fun os st H enc => liftC law_walk os st H enc)

end Go.Proofs.YbulkdducFmt

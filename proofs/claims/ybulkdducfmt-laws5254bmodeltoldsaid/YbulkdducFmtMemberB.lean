import Derived.Test.YbulkdducFmtMember
import Derived.Test.YbulkdducFmtMainC
import Derived.Test.YbulkdducFmtPlainD
namespace Go.Proofs.YbulkdducFmt
open Go.RowKit Go.Extern.Stop Go.Stop Go.Extern
set_option linter.unusedVariables false

/-- An error, and no member. -/
def NoMem (w : World) (e : Ending) (w' : World) : Prop := (∃ N c ty, e = .returned (.tuple #[.int .i64 0, .iface 82 (.pointer (some ⟨N, 0, none⟩))]) ∧ w.heap.size ≤ N ∧ w'.heap[N]? = some (.cells c ty (0, 0))) ∧ Below w.heap.size w w'

set_option maxRecDepth 100000 in
set_option maxHeartbeats 2000000 in
theorem member_none (F : Interp) (P : Nat) (s : ByteArray) (w : World) (hF : F.answers w.tape) (c0 : w.cell? ⟨P, 0, none⟩ = some (.int .i64 0)) :
    Calls Ybaf.prog 16 #[.pointer (some ⟨P, 0, none⟩), .string s] w (NoMem w) := by
  have hF' := answers_open hF
  go_enter Ybaf.func16, Ybaf.ntmps16
  go_wp2
  go_ret2
  exact ⟨⟨_, _, _, rfl, by omega, new2 w _ _ _⟩, bel2 (Below.refl _ _) _ _⟩

theorem cut_other (l : List UInt8) (h : ∀ d, l ≠ 110 :: d) : Lib.trimPrefix l nPre.data.toList = l ∧ Lib.hasPrefix l nPre.data.toList = false := by
  have e : nPre.data.toList = [110] := rfl
  rw [e]
  cases l with
  | nil => simp [Lib.trimPrefix, Lib.hasPrefix]
  | cons c r =>
    have : c ≠ 110 := fun hc => h r (by rw [hc])
    have h2 : [110].isPrefixOf (c :: r) = false := by simpa [List.isPrefixOf] using fun hc => this hc.symm
    simp [Lib.trimPrefix, Lib.hasPrefix, h2]

/-- What strconv.Atoi answers at any word. -/
def AtoiAny (s : ByteArray) (w : World) (e : Ending) (w' : World) : Prop :=
  ((∃ v, Lib.atoiAll s.data.toList = .ok v ∧ e = .returned (.tuple #[.int .i64 v, .nilIface])) ∨ ∃ v N, (∀ v, Lib.atoiAll s.data.toList ≠ .ok v) ∧ e = .returned (.tuple #[.int .i64 v, .iface 94 (.pointer (some ⟨N, 0, none⟩))])) ∧ Below w.heap.size w w'

theorem atoi_any (s : ByteArray) (aR aS : Addr) (w : World) (hz : s.size ≤ reachBytes) (hvS : w.var? Ybaf.prog "strconv.ErrSyntax" = some #[.iface 82 (.pointer (some aS))]) (hvR : w.var? Ybaf.prog "strconv.ErrRange" = some #[.iface 82 (.pointer (some aR))]) :
    Calls Ybaf.prog 22 #[.string s] w (AtoiAny s w) := by
  have hlim : s.size ≤ 281474976710656 := by unfold reachBytes at hz; omega
  have hlim2 : s.size ≤ 9223372036854775806 := by unfold reachBytes at hz; omega
  cases h : Lib.atoiAll s.data.toList
  case ok v =>
    refine (Ybaf.strconv_Atoi_ok s hlim2 v h w).mono fun e w1 ⟨he, hw⟩ => ⟨.inl ⟨v, h, he⟩, ?_⟩
    rcases hw with rfl | ⟨t, rfl⟩
    · exact Below.refl _ _
    · exact Lib.bytesWorld_below _ _ _
  case range => exact (Ybaf.strconv_Atoi_range_var s hlim h 82 _ w hvR).mono fun e w1 ⟨N, he, _, _, hb⟩ => ⟨.inr ⟨_, N, (fun v hv => by rw [h] at hv; cases hv), he⟩, hb⟩
  all_goals exact (Ybaf.strconv_Atoi_syntax_var s hlim h 82 _ w hvS).mono fun e w1 ⟨N, he, _, _, hb⟩ => ⟨.inr ⟨_, N, (fun v hv => by rw [h] at hv; cases hv), he⟩, hb⟩

set_option maxRecDepth 100000 in
set_option maxHeartbeats 2000000 in
/-- The word does not begin with an n. -/
theorem member_pre (F : Interp) (P m : Nat) (s : ByteArray) (aR aS : Addr) (w : World) (hF : F.answers w.tape) (c0 : w.cell? ⟨P, 0, none⟩ = some (.int .i64 m)) (hm1 : 1 ≤ m) (hz : s.size ≤ reachBytes) (hs : ∀ d, s.data.toList ≠ 110 :: d)
    (hvS : w.var? Ybaf.prog "strconv.ErrSyntax" = some #[.iface 82 (.pointer (some aS))]) (hvR : w.var? Ybaf.prog "strconv.ErrRange" = some #[.iface 82 (.pointer (some aR))]) :
    Calls Ybaf.prog 16 #[.pointer (some ⟨P, 0, none⟩), .string s] w (NoMem w) := by
  have hP := block_lt_of_cell c0
  have hm0 : ¬ (m : Int) = 0 := by omega
  have hcut := Ybaf.strings_CutPrefix s nPre
  obtain ⟨x1, x2⟩ := cut_other _ hs
  rw [x1, x2] at hcut
  have e0 : (⟨s.data.toList.toArray⟩ : ByteArray) = s := rfl
  rw [e0] at hcut
  clear x1 x2 e0 hs
  have hat := atoi_any s aR aS w hz hvS hvR
  clear hvS hvR
  go_enter Ybaf.func16, Ybaf.ntmps16
  go_wp2_with (first
    | (go_at_call 23; refine (hcut _).mono ?_; rintro e w ⟨rfl, rfl⟩)
    | (go_at_call 22; refine hat.mono ?_))
  rintro e w1 ⟨he, hb⟩
  have d0 := (hb.cell (p := ⟨P, 0, none⟩) hP).trans c0
  have hF1 : F.answers w1.tape := by rw [hb.tape]; exact hF
  have hF1' := answers_open hF1
  have hw1 := hb.size
  clear hat hcut
  rcases he with ⟨v, _, rfl⟩ | ⟨v, N, _, rfl⟩
  · go_wp2
    go_ret2
    exact ⟨⟨_, _, _, rfl, by omega, new2 w1 _ _ _⟩, bel2 hb _ _⟩
  · go_wp2
    go_ret2
    exact ⟨⟨_, _, _, rfl, by omega, new2 w1 _ _ _⟩, bel2 hb _ _⟩

theorem toList_data (d : ByteArray) : d.toList = d.data.toList := by
  obtain ⟨⟨l⟩⟩ := d
  simp

set_option maxRecDepth 100000 in
set_option maxHeartbeats 2000000 in
/-- An n, and no member's number. -/
theorem member_num (F : Interp) (P m : Nat) (s d : ByteArray) (aR aS : Addr) (w : World) (hF : F.answers w.tape) (c0 : w.cell? ⟨P, 0, none⟩ = some (.int .i64 m)) (hm1 : 1 ≤ m) (hm2 : m ≤ 300) (hz : d.size ≤ reachBytes) (hs : s.data.toList = 110 :: d.data.toList) (hN : NoName s.data.toList m) (hT : Tab w)
    (hvS : w.var? Ybaf.prog "strconv.ErrSyntax" = some #[.iface 82 (.pointer (some aS))]) (hvR : w.var? Ybaf.prog "strconv.ErrRange" = some #[.iface 82 (.pointer (some aR))]) :
    Calls Ybaf.prog 16 #[.pointer (some ⟨P, 0, none⟩), .string s] w (NoMem w) := by
  have hP := block_lt_of_cell c0
  have hm0 : ¬ (m : Int) = 0 := by omega
  have hcut := Ybaf.strings_CutPrefix s nPre
  obtain ⟨x1, x2⟩ := cut_n d.data.toList
  rw [hs, x1, x2] at hcut
  have e0 : (⟨d.data.toList.toArray⟩ : ByteArray) = d := rfl
  rw [e0] at hcut
  clear x1 x2 e0
  have hat := atoi_any d aR aS w hz hvS hvR
  clear hvS hvR
  have HN : Hid (∀ a, a < m → d.data.toList ≠ Lib.decDigits (a + 1)) := fun a ha e => hN a ⟨ha, by rw [hs, e]⟩
  clear hN hs
  go_enter Ybaf.func16, Ybaf.ntmps16
  go_wp2_with (first
    | (go_at_call 23; refine (hcut _).mono ?_; rintro e w ⟨rfl, rfl⟩)
    | (go_at_call 22; refine hat.mono ?_))
  rintro e w1 ⟨he, hb⟩
  have d0 := (hb.cell (p := ⟨P, 0, none⟩) hP).trans c0
  have hF1 : F.answers w1.tape := by rw [hb.tape]; exact hF
  have hF1' := answers_open hF1
  have hw1 := hb.size
  have hT1 := hT.on hb
  clear hat hcut
  rcases he with ⟨v, hv, rfl⟩ | ⟨v, N, _, rfl⟩
  · by_cases h1 : v < 1
    · go_wp2
      go_ret2
      exact ⟨⟨_, _, _, rfl, by omega, new2 w1 _ _ _⟩, bel2 hb _ _⟩
    by_cases h2 : (m : Int) < v
    · go_wp2
      go_ret2
      exact ⟨⟨_, _, _, rfl, by omega, new2 w1 _ _ _⟩, bel2 hb _ _⟩
    obtain ⟨u, rfl⟩ : ∃ u : Nat, v = (u : Int) := ⟨v.toNat, by omega⟩
    have hit := Ybaf.strconv_Itoa (u : Int) (by omega) (by omega) w1 hT1
    rw [itoa_dec] at hit
    have hne : (Lib.decDigits u == d.toList) = false := by
      rw [toList_data]
      have := HN.out (u - 1) (by omega)
      rw [show u - 1 + 1 = u by omega] at this
      simpa using fun e => this e.symm
    clear hv
    go_wp2_with (go_at_call 10; refine hit.mono ?_)
    rintro e w2 ⟨rfl, k, os, hw2⟩
    have hb2 : Below w1.heap.size w1 w2 := by rw [hw2]; exact Lib.below_grow _ _ (Nat.le_refl _) _ _
    clear hw2 hit
    have f0 := (hb2.cell (p := ⟨P, 0, none⟩) (by show P < _; omega)).trans d0
    have hF2 : F.answers w2.tape := by rw [hb2.tape]; exact hF1
    have hF2' := answers_open hF2
    have hbW := hb.trans (hb2.mono hb.size)
    have hw2 := hbW.size
    clear hF1'
    go_wp2
    go_ret2
    exact ⟨⟨_, _, _, rfl, by omega, new2 w2 _ _ _⟩, bel2 hbW _ _⟩
  · go_wp2
    go_ret2
    exact ⟨⟨_, _, _, rfl, by omega, new2 w1 _ _ _⟩, bel2 hb _ _⟩
/-- The word names no member, in every world behind w. -/
def MemNo (F : Interp) (w : World) (P : Nat) (s : ByteArray) : Prop := ∀ w', Below w.heap.size w w' → Calls Ybaf.prog 16 #[.pointer (some ⟨P, 0, none⟩), .string s] w' (NoMem w')

theorem MemNo.on {F : Interp} {w w1 : World} {P : Nat} {s : ByteArray} (h : MemNo F w P s) (hb : Below w.heap.size w w1) : MemNo F w1 P s := fun w' hb' => h w' (hb.trans (hb'.mono hb.size))

theorem memNo_zero {F : Interp} {w : World} {P : Nat} {s : ByteArray} (hF : F.answers w.tape) (c0 : w.cell? ⟨P, 0, none⟩ = some (.int .i64 0)) : MemNo F w P s := fun w' hb =>
  member_none F P s w' (by rw [hb.tape]; exact hF) ((hb.cell (p := ⟨P, 0, none⟩) (block_lt_of_cell c0)).trans c0)

theorem memNo_of {F : Interp} {w : World} {P m : Nat} {s : ByteArray} {aR aS : Addr} (hF : F.answers w.tape) (c0 : w.cell? ⟨P, 0, none⟩ = some (.int .i64 m)) (hm1 : 1 ≤ m) (hm2 : m ≤ 300) (hz : s.size ≤ reachBytes) (hN : NoName s.data.toList m) (hT : Tab w)
    (hvS : w.var? Ybaf.prog "strconv.ErrSyntax" = some #[.iface 82 (.pointer (some aS))]) (hvR : w.var? Ybaf.prog "strconv.ErrRange" = some #[.iface 82 (.pointer (some aR))]) : MemNo F w P s := by
  intro w' hb
  have hF' : F.answers w'.tape := by rw [hb.tape]; exact hF
  have c0' := (hb.cell (p := ⟨P, 0, none⟩) (block_lt_of_cell c0)).trans c0
  have hS' := var_below hb hvS
  have hR' := var_below hb hvR
  by_cases h : ∃ d, s.data.toList = 110 :: d
  · obtain ⟨d, hd⟩ := h
    refine member_num F P m s ⟨d.toArray⟩ aR aS w' hF' c0' hm1 hm2 ?_ (by rw [hd]) hN (hT.on hb) hS' hR'
    have e : s.size = d.length + 1 := by
      have : s.size = s.data.toList.length := rfl
      rw [this, hd]; rfl
    show d.toArray.size ≤ _
    simp only [List.size_toArray]
    omega
  · exact member_pre F P m s aR aS w' hF' c0' hm1 hz (fun d e => h ⟨d, e⟩) hS' hR'

theorem set_kept (w : World) (B N : Nat) (u v : Value) (h : N ≠ B) : ((w.setCell ⟨B, 0, none⟩ u).setCell ⟨B, 1, none⟩ v).heap[N]? = w.heap[N]? := by
  rw [Below.heap_setCell _ _ _ _ h, Below.heap_setCell _ _ _ _ h]

set_option maxRecDepth 100000 in
set_option maxHeartbeats 2000000 in
/-- Not two words. -/
theorem pairOf_form (P : Nat) (a : Option Addr) (len cap : Nat) (aF : Addr) (w : World) (hn : len ≠ 2) (hf : w.cell? ⟨0, 0, none⟩ = some (.iface 82 (.pointer (some aF)))) :
    Calls Ybaf.prog 7 #[.pointer (some ⟨P, 0, none⟩), .slice a len cap] w fun e w' => e = .returned (.tuple #[.agg #[.int .i64 0, .int .i64 0], .iface 82 (.pointer (some aF))]) ∧ Below w.heap.size w w' := by
  have hn' : ¬ (len : Int) = 2 := by omega
  have h0 := block_lt_of_cell hf
  go_enter Ybaf.func7, Ybaf.ntmps7
  go_wp2
  go_region
  all_goals go_wp2
  all_goals exact bodyPost_ret (res7 _ _ w.heap.size 0 0 (.iface 82 (.pointer (some aF))) rfl rfl (keyWorld_c0 w) (keyWorld_c1 w)) rfl ⟨rfl, (keyWorld_below w).drew⟩

set_option maxRecDepth 100000 in
set_option maxHeartbeats 2000000 in
/-- The first word names no member. -/
theorem pairOf_first (F : Interp) (P : Nat) (x : Addr) (cap : Nat) (s0 : ByteArray) (w : World) (hs0 : w.cell? x = some (.string s0)) (hA : MemNo F w P s0) (hc : 2 ≤ cap) :
    Calls Ybaf.prog 7 #[.pointer (some ⟨P, 0, none⟩), .slice (some x) 2 cap] w (PairErr w) := by
  have hx0 := block_lt_of_cell hs0
  have hbA := keyWorld_below w
  have hcA := hA _ hbA
  have hk0 := keyWorld_c0 w
  have hk1 := keyWorld_c1 w
  have hkf := keyWorld_fr w
  have hkl := keyWorld_lt w
  go_enter Ybaf.func7, Ybaf.ntmps7
  go_wp2_with (go_at_call 16; refine hcA.mono ?_)
  rintro e w1 ⟨⟨N, c, ty, rfl, hN, hcc⟩, hb1⟩
  have hbW1 : Below w.heap.size w w1 := hbA.trans (hb1.mono hbA.size)
  have d0 := (hb1.cell (p := ⟨w.heap.size, 0, none⟩) hkl).trans hk0
  have d1 := (hb1.cell (p := ⟨w.heap.size, 1, none⟩) hkl).trans hk1
  have df : ∀ o, w1.frozen? ⟨w.heap.size, o, none⟩ = false := fun o => (hb1.frozen (p := ⟨w.heap.size, o, none⟩) hkl).trans (hkf o)
  clear hcA hA hk0 hk1 hkf hb1
  go_wp2
  refine bodyPost_ret (res7 _ _ w.heap.size 0 0 (.iface 82 (.pointer (some ⟨N, 0, none⟩))) rfl rfl (set_key d0 d1).1 (set_key d0 d1).2) rfl ⟨⟨_, _, _, rfl, by omega, (set_kept w1 w.heap.size N _ _ (by omega)).trans hcc⟩, (hbW1.setCell (Nat.le_refl _) _).setCell (Nat.le_refl _) _⟩

set_option maxRecDepth 100000 in
set_option maxHeartbeats 2000000 in
/-- The second word names no member. -/
theorem pairOf_second (F : Interp) (P a : Nat) (x : Addr) (cap : Nat) (s0 s1 : ByteArray) (w : World) (hs0 : w.cell? x = some (.string s0)) (hs1 : w.cell? (x.add 1) = some (.string s1)) (hA : MemIs w P s0 a) (hB : MemNo F w P s1) (hc : 2 ≤ cap) :
    Calls Ybaf.prog 7 #[.pointer (some ⟨P, 0, none⟩), .slice (some x) 2 cap] w (PairErr w) := by
  have hx0 := block_lt_of_cell hs0
  have hx1 := block_lt_of_cell hs1
  have hbA := keyWorld_below w
  have hcA := hA _ hbA
  have hk0 := keyWorld_c0 w
  have hk1 := keyWorld_c1 w
  have hkf := keyWorld_fr w
  have hkl := keyWorld_lt w
  go_enter Ybaf.func7, Ybaf.ntmps7
  go_wp2_with (go_at_call 16; refine hcA.mono ?_)
  rintro e w1 ⟨rfl, hb1⟩
  have hbW1 : Below w.heap.size w w1 := hbA.trans (hb1.mono hbA.size)
  have hcB := hB _ hbW1
  have e1 : w1.cell? ⟨x.block, x.off + 1, none⟩ = some (.string s1) := (hbW1.cell hx1).trans hs1
  clear hcA hA hB
  go_wp2_with (go_at_call 16; refine hcB.mono ?_)
  rintro e w2 ⟨⟨N, c, ty, rfl, hN, hcc⟩, hb2⟩
  have hbW2 : Below w.heap.size w w2 := hbW1.trans (hb2.mono hbW1.size)
  have hk2 := hb1.trans (hb2.mono hb1.size)
  have hz1 := hb1.size
  have d0 := (hk2.cell (p := ⟨w.heap.size, 0, none⟩) hkl).trans hk0
  have d1 := (hk2.cell (p := ⟨w.heap.size, 1, none⟩) hkl).trans hk1
  have df : ∀ o, w2.frozen? ⟨w.heap.size, o, none⟩ = false := fun o => (hk2.frozen (p := ⟨w.heap.size, o, none⟩) hkl).trans (hkf o)
  clear hcB hk0 hk1 hkf hb1 hb2 hs0 hs1
  go_wp2
  refine bodyPost_ret (res7 _ _ w.heap.size 0 0 (.iface 82 (.pointer (some ⟨N, 0, none⟩))) rfl rfl (set_key d0 d1).1 (set_key d0 d1).2) rfl ⟨⟨_, _, _, rfl, by omega, (set_kept w2 w.heap.size N _ _ (by omega)).trans hcc⟩, (hbW2.setCell (Nat.le_refl _) _).setCell (Nat.le_refl _) _⟩
end Go.Proofs.YbulkdducFmt

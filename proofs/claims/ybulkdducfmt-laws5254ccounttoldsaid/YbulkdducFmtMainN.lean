import Derived.Test.YbulkdducFmtMainC
import Derived.Test.YbulkdducFmtDigits
import Derived.Test.YbulkdducFmtLiftN
import Derived.Laws.IdiomStrings
namespace Go.Proofs.YbulkdducFmt
open Go.RowKit Go.Extern.Stop Go.Stop Go.Extern Go.Lib
set_option linter.unusedVariables false

/-- The sign that may stand ahead. -/
def pre (pl : Bool) : List UInt8 := if pl then [43] else []
def nulls (k : Nat) : List UInt8 := List.replicate k 48

theorem parse_nulls (k : Nat) (D : List UInt8) : parseUint10 0 (nulls k ++ D) = parseUint10 0 D := by
  induction k with
  | zero => rfl
  | succ k ih =>
    show parseUint10 0 (48 :: (nulls k ++ D)) = _
    have e : (48 : UInt8).toNat = 48 := rfl
    rw [parseUint10, e, if_pos (by omega), if_neg (by omega), if_neg (by omega)]
    exact ih

theorem nulls_digs {k : Nat} {D : List UInt8} (h : Digs D) : Digs (nulls k ++ D) := by
  intro c hc
  rcases List.mem_append.1 hc with h1 | h1
  · have := List.eq_of_mem_replicate h1
    subst this
    decide
  · exact h c h1

theorem count_end (pl : Bool) (k : Nat) (D : List UInt8) (v : Nat) (hD : parseUint10 0 D = .ok v) (hne : D ≠ []) (hd : Digs D) (hv : v ≤ 100000) : atoiAll (pre pl ++ nulls k ++ D) = .ok (v : Int) := by
  have hM : parseMag (nulls k ++ D) = .ok v := by
    rw [parseMag, if_neg (by simp [hne]), parse_nulls, hD]
  cases pl
  · show atoiAll (nulls k ++ D) = _
    have hdd := nulls_digs (k := k) hd
    cases hl : nulls k ++ D with
    | nil => simp [hne] at hl
    | cons c r =>
      rw [hl] at hdd hM
      have := hdd c (by simp)
      rw [atoiAll_plain c r (by omega) (by omega), hM]
      simp only [signless]
      rw [if_neg (by omega)]
  · show atoiAll (43 :: (nulls k ++ D)) = _
    rw [atoiAll_plus, hM]
    simp only [signless]
    rw [if_neg (by omega)]

/-- What holds in the loop over the noughts. -/
def NRel (W : World) (pl : Bool) (K : Nat) (b k : Value) (wr : World) : Prop := ∃ j : Nat, j ≤ K ∧ k = .int .i64 j ∧ Buf wr W.heap.size b (pre pl ++ nulls j) ∧ Below W.heap.size W wr

/-- What holds behind the digits. -/
def NCut (W : World) (pl : Bool) (j v0 : Nat) (b' : Value) (w2 : World) : Prop := ∃ D, Buf w2 W.heap.size b' (pre pl ++ nulls j ++ D) ∧ parseUint10 0 D = .ok v0 ∧ D ≠ [] ∧ Digs D ∧ D.length ≤ 100001 ∧ Below W.heap.size W w2

theorem pre_length (pl : Bool) : (pre pl).length ≤ 1 := by cases pl <;> decide

theorem buf_conv {w : World} {B : Nat} {v : Value} {l : List UInt8} (h : Buf w B v l) (hne : l ≠ []) : (convert 50 9 v).run Ybaf.prog w = .ok (.string ⟨l.toArray⟩) w := by
  have hl : 0 < l.length := List.length_pos_iff.2 hne
  rcases id h.2 with ⟨_, h0⟩ | ⟨g, cap, cur, rfl, _⟩
  · omega
  · exact run_convert_bytes_back w 50 9 5 ⟨g, 0, none⟩ cap l Ybaf.underlying50 Ybaf.underlying5 Ybaf.underlying9 (fun j hj => by
      have := h.byte j hj
      have e : (⟨g, 0, none⟩ : Addr).add j = ⟨g, j, none⟩ := by
        unfold Addr.add
        split
        · rename_i h0; subst h0; rfl
        · simp
      rw [e]; exact this)

/-- The world in which the members line is read. -/
def strWorld (w : World) (pr ln : Int) (s : ByteArray) : World := (parWorld w pr ln 0).alloc (.cells #[.string s] 9)
theorem strWorld_below (w : World) (pr ln : Int) (s : ByteArray) : Below w.heap.size w (strWorld w pr ln s) := (parWorld_below w pr ln 0).alloc (parWorld_below w pr ln 0).size _
theorem strWorld_pars (w : World) (pr ln : Int) (s : ByteArray) : Pars (strWorld w pr ln s) w.heap.size pr ln 0 (.slice none 0 0) := (parWorld_pars w pr ln 0).on ((Below.refl _ _).alloc (Nat.le_refl _) _)
theorem strWorld_cell (w : World) (pr ln : Int) (s : ByteArray) : (strWorld w pr ln s).cell? ⟨w.heap.size + 1, 0, none⟩ = some (.string s) := by
  unfold strWorld parWorld
  go_simp

set_option maxRecDepth 100000 in
set_option maxHeartbeats 4000000 in
theorem count_ok (F : Interp) (W w : World) (aR aS aF : Addr) (ln : Int) (v0 pr : Nat) (b : Value) (L : List UInt8) (hF : F.answers W.tape) (hV : Vars W aR aS aF) (hv : v0 < 70000) (hb : Below W.heap.size W w) (hbuf : Buf w W.heap.size b L) (hne : L ≠ []) (hlen : L.length ≤ 200000) (hend : atoiAll L = .ok (v0 : Int)) (h0 : pr = 0) (h1 : 1 ≤ v0) (h2 : v0 ≤ 65535) (u0 u1 u2 u3 u5 u6 u7 u8 u9 u14 u15 u16 u17 u18 u19 u20 u21 u22 u23 u24 u25 u26 u27 u28 u29 u30 u31 u32 u33 u34 u35 u36 u37 u38 u39 u40 u41 u42 u43 u44 u45 u46 u47 u48 u49 u50 u51 u52 u53 u54 u55 u56 u57 u58 u59 u60 u61 u62 u63 u64 u65 u66 u67 u68 u69 u70 u71 u72 u73 u74 u75 u76 u77 u78 u79 u80 u81 u82 u83 u84 u85 u86 u87 u88 u89 u90 u91 u92 u93 u94 u95 u96 u97 u98 u99 : Value) :
    Code.wp Ybaf.prog (dropSeq 7 (Ybaf.f6.body.getD .skip)) (bodyPost Ybaf.prog Ybaf.f6 (fun e W' => e = .returned (.bool true) ∧ Below W.heap.size W W')) ⟨(u0 :: u1 :: u2 :: u3 :: (.int .i64 ln) :: u5 :: u6 :: u7 :: u8 :: u9 :: (.bool false) :: (.int .i64 v0) :: (.int .i64 pr) :: b :: u14 :: u15 :: u16 :: u17 :: u18 :: u19 :: u20 :: u21 :: u22 :: u23 :: u24 :: u25 :: u26 :: u27 :: u28 :: u29 :: u30 :: u31 :: u32 :: u33 :: u34 :: u35 :: u36 :: u37 :: u38 :: u39 :: u40 :: u41 :: u42 :: u43 :: u44 :: u45 :: u46 :: u47 :: u48 :: u49 :: u50 :: u51 :: u52 :: u53 :: u54 :: u55 :: u56 :: u57 :: u58 :: u59 :: u60 :: u61 :: u62 :: u63 :: u64 :: u65 :: u66 :: u67 :: u68 :: u69 :: u70 :: u71 :: u72 :: u73 :: u74 :: u75 :: u76 :: u77 :: u78 :: u79 :: u80 :: u81 :: u82 :: u83 :: u84 :: u85 :: u86 :: u87 :: u88 :: u89 :: u90 :: u91 :: u92 :: u93 :: u94 :: u95 :: u96 :: u97 :: u98 :: u99 :: []).toArray, []⟩ w := by
  conv => arg 2; whnf
  have hconv := buf_conv (hbuf.on (parWorld_below w pr ln 0)) hne
  simp only [parWorld] at hconv
  have hbS := strWorld_below w pr ln ⟨L.toArray⟩
  have hpS := strWorld_pars w pr ln ⟨L.toArray⟩
  have hcS := strWorld_cell w pr ln ⟨L.toArray⟩
  have hbW : Below W.heap.size W (strWorld w pr ln ⟨L.toArray⟩) := hb.trans (hbS.mono hb.size)
  have hF3 : F.answers (strWorld w pr ln ⟨L.toArray⟩).tape := by rw [hbW.tape]; exact hF
  have hzs : (⟨L.toArray⟩ : ByteArray).size ≤ reachBytes := by
    show L.toArray.size ≤ _
    simp [reachBytes]; omega
  have hf := form_cell hV.form
  obtain ⟨sF, hsF⟩ := hV.cell
  have hend' : atoiAll (⟨L.toArray⟩ : ByteArray).data.toList = .ok (v0 : Int) := hend
  have hWp := block_lt_of_cell hf
  have hws := hb.size
  have hcall := members_ok w.heap.size ⟨w.heap.size + 1, 0, none⟩ 1 ⟨L.toArray⟩ pr ln 0 v0 (strWorld w pr ln ⟨L.toArray⟩) (by omega) hpS hcS hzs hend' h1 h2
  have c0 : ¬ (0 : Int) < pr := by omega
  have c1 : ¬ (v0 : Int) < 1 := by omega
  have c2 : ¬ (65535 : Int) < v0 := by omega
  clear hend hend' hbuf h0
  go_wp2_with (go_at_call 11; refine hcall.mono ?_)
  rintro e w4 rfl w5 hb5 hw4
  have hp1 := ok_pars (n := v0) (hpS.on hb5)
  rw [← hw4] at hp1
  have hfat : Fates w4 w5.heap.size v0 := by rw [hw4]; exact ok_fates h2
  have hbW4 : Below W.heap.size W w4 := by rw [hw4]; exact ok_below (hbW.trans (hb5.mono hbW.size)) hws
  have hfr := fresh_walk w5.heap.size v0 w4 h2 hfat
  obtain ⟨c0, c1', c3, c5, c7, fr, hlt⟩ := hp1
  clear hcall hb5 hpS hbS hbW hcS hconv hw4 hfat
  go_wp2_with (go_at_call 14; refine hfr.mono ?_; rintro e w' ⟨rfl, rfl⟩)
  go_ret
  exact ⟨rfl, hbW4⟩

set_option maxRecDepth 100000 in
set_option maxHeartbeats 800000 in
theorem count_err (F : Interp) (W w : World) (aR aS aF : Addr) (ln : Int) (v0 pr : Nat) (b : Value) (L : List UInt8) (hF : F.answers W.tape) (hV : Vars W aR aS aF) (hv : v0 < 70000) (hb : Below W.heap.size W w) (hbuf : Buf w W.heap.size b L) (hne : L ≠ []) (hlen : L.length ≤ 200000) (hend : atoiAll L = .ok (v0 : Int)) (hcond : (0 : Int) < pr ∨ (¬ (0 : Int) < pr ∧ (v0 : Int) < 1) ∨ (¬ (0 : Int) < pr ∧ ¬ (v0 : Int) < 1 ∧ (65535 : Int) < v0)) (u0 u1 u2 u3 u5 u6 u7 u8 u9 u14 u15 u16 u17 u18 u19 u20 u21 u22 u23 u24 u25 u26 u27 u28 u29 u30 u31 u32 u33 u34 u35 u36 u37 u38 u39 u40 u41 u42 u43 u44 u45 u46 u47 u48 u49 u50 u51 u52 u53 u54 u55 u56 u57 u58 u59 u60 u61 u62 u63 u64 u65 u66 u67 u68 u69 u70 u71 u72 u73 u74 u75 u76 u77 u78 u79 u80 u81 u82 u83 u84 u85 u86 u87 u88 u89 u90 u91 u92 u93 u94 u95 u96 u97 u98 u99 : Value) :
    Code.wp Ybaf.prog (dropSeq 7 (Ybaf.f6.body.getD .skip)) (bodyPost Ybaf.prog Ybaf.f6 (fun e W' => e = .returned (.bool true) ∧ Below W.heap.size W W')) ⟨(u0 :: u1 :: u2 :: u3 :: (.int .i64 ln) :: u5 :: u6 :: u7 :: u8 :: u9 :: (.bool false) :: (.int .i64 v0) :: (.int .i64 pr) :: b :: u14 :: u15 :: u16 :: u17 :: u18 :: u19 :: u20 :: u21 :: u22 :: u23 :: u24 :: u25 :: u26 :: u27 :: u28 :: u29 :: u30 :: u31 :: u32 :: u33 :: u34 :: u35 :: u36 :: u37 :: u38 :: u39 :: u40 :: u41 :: u42 :: u43 :: u44 :: u45 :: u46 :: u47 :: u48 :: u49 :: u50 :: u51 :: u52 :: u53 :: u54 :: u55 :: u56 :: u57 :: u58 :: u59 :: u60 :: u61 :: u62 :: u63 :: u64 :: u65 :: u66 :: u67 :: u68 :: u69 :: u70 :: u71 :: u72 :: u73 :: u74 :: u75 :: u76 :: u77 :: u78 :: u79 :: u80 :: u81 :: u82 :: u83 :: u84 :: u85 :: u86 :: u87 :: u88 :: u89 :: u90 :: u91 :: u92 :: u93 :: u94 :: u95 :: u96 :: u97 :: u98 :: u99 :: []).toArray, []⟩ w := by
  conv => arg 2; whnf
  have hconv := buf_conv (hbuf.on (parWorld_below w pr ln 0)) hne
  simp only [parWorld] at hconv
  have hbS := strWorld_below w pr ln ⟨L.toArray⟩
  have hpS := strWorld_pars w pr ln ⟨L.toArray⟩
  have hcS := strWorld_cell w pr ln ⟨L.toArray⟩
  have hbW : Below W.heap.size W (strWorld w pr ln ⟨L.toArray⟩) := hb.trans (hbS.mono hb.size)
  have hF3 : F.answers (strWorld w pr ln ⟨L.toArray⟩).tape := by rw [hbW.tape]; exact hF
  have hzs : (⟨L.toArray⟩ : ByteArray).size ≤ reachBytes := by
    show L.toArray.size ≤ _
    simp [reachBytes]; omega
  have hf := form_cell hV.form
  obtain ⟨sF, hsF⟩ := hV.cell
  have hend' : atoiAll (⟨L.toArray⟩ : ByteArray).data.toList = .ok (v0 : Int) := hend
  have hWp := block_lt_of_cell hf
  have hws := hb.size
  have hcall : Calls Ybaf.prog 11 #[.pointer (some ⟨w.heap.size, 0, none⟩), .slice (some ⟨w.heap.size + 1, 0, none⟩) 1 1] (strWorld w pr ln ⟨L.toArray⟩) (NewErr (strWorld w pr ln ⟨L.toArray⟩)) := by
    rcases Nat.eq_zero_or_pos pr with hp | hp
    · exact members_out F _ _ 1 _ pr v0 _ hF3 (by omega) hpS.c0 hcS hzs hend' (by omega)
    · exact members_second F _ _ 1 pr 0 _ hF3 (by omega) hpS.c0 hpS.c5 hpS.lt
  clear hend hend' hbuf
  go_wp2_with (go_at_call 11; refine hcall.mono ?_)
  rintro e w4 ⟨⟨N, c, ty, rfl, hN, hc⟩, hb4⟩
  have hbW4 : Below W.heap.size W w4 := hbW.trans (hb4.mono hbW.size)
  have hf4 := (hbW4.cell (p := ⟨0, 0, none⟩) hWp).trans hf
  have hF4 := (hbW4.cell (block_lt_of_cell hsF)).trans hsF
  have hne4 : N ≠ aF.block := by have := block_lt_of_cell hsF; have := hbW.size; omega
  have hq := neq_new hne4 hc hF4
  have hp4 := hpS.on hb4
  clear hcall hc hF4 hsF hf hb4 hpS hbS hbW hcS hconv
  rcases hcond with c1 | ⟨c1, c2⟩ | ⟨c1, c2, c3⟩
  · go_wp2_with (go_at_call 12; refine hp4.unchanged.mono ?_; rintro e w' ⟨rfl, rfl⟩)
    go_ret
    exact ⟨rfl, hbW4⟩
  · have hp5 : Pars w4 w.heap.size 0 ln 0 (.slice none 0 0) := by
      have : (pr : Int) = 0 := by omega
      rw [this] at hp4; exact hp4
    clear hp4
    go_wp2_with (go_at_call 12; refine hp5.unchanged.mono ?_; rintro e w' ⟨rfl, rfl⟩)
    go_ret
    exact ⟨rfl, hbW4⟩
  · have hp5 : Pars w4 w.heap.size 0 ln 0 (.slice none 0 0) := by
      have : (pr : Int) = 0 := by omega
      rw [this] at hp4; exact hp4
    clear hp4
    go_wp2_with (go_at_call 12; refine hp5.unchanged.mono ?_; rintro e w' ⟨rfl, rfl⟩)
    go_ret
    exact ⟨rfl, hbW4⟩

set_option maxRecDepth 100000 in
set_option maxHeartbeats 4000000 in
theorem count_rest (F : Interp) (W w : World) (aR aS aF : Addr) (n z : Int) (pl : Bool) (pr0 ln : Int) (v0 pr : Nat) (b : Value) (hF : F.answers W.tape) (hV : Vars W aR aS aF) (hz0 : 0 ≤ z) (hz1 : z ≤ 255) (hpr : pr ≤ 2) (hv : v0 < 70000) (hb : Below W.heap.size W w) (hbuf : Buf w W.heap.size b (pre pl)) (u5 u6 u7 u8 u9 u14 u15 u16 u17 u18 u19 u20 u21 u22 u23 u24 u25 u26 u27 u28 u29 u30 u31 u32 u33 u34 u35 u36 u37 u38 u39 u40 u41 u42 u43 u44 u45 u46 u47 u48 u49 u50 u51 u52 u53 u54 u55 u56 u57 u58 u59 u60 u61 u62 u63 u64 u65 u66 u67 u68 u69 u70 u71 u72 u73 u74 u75 u76 u77 u78 u79 u80 u81 u82 u83 u84 u85 u86 u87 u88 u89 u90 u91 u92 u93 u94 u95 u96 u97 u98 u99 : Value) :
    Code.wp Ybaf.prog (dropSeq 5 (Ybaf.f6.body.getD .skip)) (bodyPost Ybaf.prog Ybaf.f6 (fun e W' => e = .returned (.bool true) ∧ Below W.heap.size W W')) ⟨((.int .u32 n) :: (.int .u8 z) :: (.bool pl) :: (.int .u8 pr0) :: (.int .i64 ln) :: u5 :: u6 :: u7 :: u8 :: u9 :: (.bool false) :: (.int .i64 v0) :: (.int .i64 pr) :: b :: u14 :: u15 :: u16 :: u17 :: u18 :: u19 :: u20 :: u21 :: u22 :: u23 :: u24 :: u25 :: u26 :: u27 :: u28 :: u29 :: u30 :: u31 :: u32 :: u33 :: u34 :: u35 :: u36 :: u37 :: u38 :: u39 :: u40 :: u41 :: u42 :: u43 :: u44 :: u45 :: u46 :: u47 :: u48 :: u49 :: u50 :: u51 :: u52 :: u53 :: u54 :: u55 :: u56 :: u57 :: u58 :: u59 :: u60 :: u61 :: u62 :: u63 :: u64 :: u65 :: u66 :: u67 :: u68 :: u69 :: u70 :: u71 :: u72 :: u73 :: u74 :: u75 :: u76 :: u77 :: u78 :: u79 :: u80 :: u81 :: u82 :: u83 :: u84 :: u85 :: u86 :: u87 :: u88 :: u89 :: u90 :: u91 :: u92 :: u93 :: u94 :: u95 :: u96 :: u97 :: u98 :: u99 :: []).toArray, []⟩ w := by
  conv => arg 2; whnf
  obtain ⟨K, hK⟩ : ∃ K : Nat, (K : Int) = z % 4 := ⟨(z % 4).toNat, by omega⟩
  have hK3 : K ≤ 3 := by omega
  go_wp2
  go_loopw [13, 14] (fun b k wr => NRel W pl K b k wr) (fun _ k _ => K - (RowKit.intOf k).toNat)
  case atStart => exact ⟨0, by omega, rfl, by simpa [nulls] using hbuf, hb⟩
  case round =>
    obtain ⟨j, hj, rfl, hbuf2, hbw⟩ := hrel
    have hbs := hbw.size
    have hpl := pre_length pl
    rcases Nat.lt_or_ge j K with hlt | hge
    · have hlt' : (j : Int) < z % 4 := by omega
      go_wp2_with (at_builtin; refine wpList_push 48 48 rfl rfl _ _ rfl W.heap.size _ _ rfl rfl hbuf2 (by simp [nulls]; omega) hbs ?_; intro v' w' X)
      exact ⟨⟨j + 1, by omega, rfl, by simpa [nulls, List.replicate_succ'] using X.buf, hbw.trans X.below⟩, by simp [RowKit.intOf]; omega⟩
    · obtain rfl : j = K := by omega
      have hlt' : ¬ (j : Int) < z % 4 := by omega
      go_upto_region 10 with (fail)
      clear hK hlt'
      go_cut [13] (fun b' w2 => NCut W pl j v0 b' w2)
      case first =>
        go_wp2_with (go_at_call 15; refine (digits_walk _ W.heap.size _ _ v0 hbuf2 hbs (by omega) (by simp [nulls]; omega)).mono ?_)
        rintro e w2 ⟨b', D, rfl, hbuf3, hpar, hne, hdig, hlen, hbel⟩
        have hb2 : Below W.heap.size W w2 := hbw.trans hbel
        have X : NCut W pl j v0 b' w2 := ⟨D, hbuf3, hpar, hne, hdig, hlen, hb2⟩
        clear hbuf3 hpar hne hdig hlen hb2 hbel
        go_wp2
        go_meet
        case rel => exact X
      case rest =>
        rename_i hKK
        refine hKK _ _ ?_
        obtain ⟨D, hbuf3, hpar, hne, hdig, hlen, hb2⟩ := hcut
        have hend := count_end pl j D v0 hpar hne hdig (by omega)
        have hne3 : pre pl ++ nulls j ++ D ≠ [] := by simp [hne]
        have hlen3 : (pre pl ++ nulls j ++ D).length ≤ 200000 := by simp [nulls]; omega
        by_cases hok : pr = 0 ∧ 1 ≤ v0 ∧ v0 ≤ 65535
        · exact count_ok F W _ aR aS aF ln v0 pr _ _ hF hV hv hb2 hbuf3 hne3 hlen3 hend hok.1 hok.2.1 hok.2.2 _ _ _ _ _ _ _ _ _ _ _ _ _ _ _ _ _ _ _ _ _ _ _ _ _ _ _ _ _ _ _ _ _ _ _ _ _ _ _ _ _ _ _ _ _ _ _ _ _ _ _ _ _ _ _ _ _ _ _ _ _ _ _ _ _ _ _ _ _ _ _ _ _ _ _ _ _ _ _ _ _ _ _ _ _ _ _ _ _ _ _ _ _ _ _ 
        · exact count_err F W _ aR aS aF ln v0 pr _ _ hF hV hv hb2 hbuf3 hne3 hlen3 hend (by omega) _ _ _ _ _ _ _ _ _ _ _ _ _ _ _ _ _ _ _ _ _ _ _ _ _ _ _ _ _ _ _ _ _ _ _ _ _ _ _ _ _ _ _ _ _ _ _ _ _ _ _ _ _ _ _ _ _ _ _ _ _ _ _ _ _ _ _ _ _ _ _ _ _ _ _ _ _ _ _ _ _ _ _ _ _ _ _ _ _ _ _ _ _ _ _ 

set_option maxRecDepth 100000 in
set_option maxHeartbeats 4000000 in
theorem count_walk (F : Interp) (W : World) (aR aS aF : Addr) (n z : Int) (pl : Bool) (pr ln : Int) (hF : F.answers W.tape) (hV : Vars W aR aS aF) (wn : (Lit.int .u32 n).wf = true) (wz : (Lit.int .u8 z).wf = true) (wp : (Lit.int .u8 pr).wf = true) (wl : (Lit.int .i64 ln).wf = true) :
    Calls Ybaf.prog 6 #[.int .u32 n, .int .u8 z, .bool pl, .int .u8 pr, .int .i64 ln] W fun e W' => e = .returned (.bool true) ∧ Below W.heap.size W W' := by
  have bn := bounds_u32 wn
  have bz := bounds_u8 wz
  have bp := bounds_u8 wp
  obtain ⟨v0, hv0⟩ : ∃ v0 : Nat, (v0 : Int) = n % 70000 := ⟨(n % 70000).toNat, by omega⟩
  obtain ⟨p0, hp0⟩ : ∃ p0 : Nat, (p0 : Int) = pr % 3 := ⟨(pr % 3).toNat, by omega⟩
  obtain ⟨bn0, bn1⟩ := bn
  obtain ⟨bz0, bz1⟩ := bz
  obtain ⟨bp0, bp1⟩ := bp
  have hv0' := hv0.symm
  have hp0' := hp0.symm
  clear hv0 hp0
  go_enter Ybaf.func6, Ybaf.ntmps6
  cases pl
  · go_upto_if 23 with (fail)
    go_cut [13] (fun b wd => b = .slice none 0 0 ∧ wd = W)
    case first =>
      go_wp2
      go_meet
      case rel => exact ⟨rfl, rfl⟩
    case rest =>
      rename_i hK
      refine hK _ _ ?_
      obtain ⟨rfl, rfl⟩ := hcut
      exact count_rest F _ _ aR aS aF n z false pr ln v0 p0 _ hF hV (by omega) (by omega) (by omega) (by omega) (Below.refl _ _) (buf_nil _ _) _ _ _ _ _ _ _ _ _ _ _ _ _ _ _ _ _ _ _ _ _ _ _ _ _ _ _ _ _ _ _ _ _ _ _ _ _ _ _ _ _ _ _ _ _ _ _ _ _ _ _ _ _ _ _ _ _ _ _ _ _ _ _ _ _ _ _ _ _ _ _ _ _ _ _ _ _ _ _ _ _ _ _ _ _ _ _ _ _ _ _ 
  · go_upto_if 23 with (fail)
    go_cut [13] (fun b wd => Buf wd W.heap.size b [43] ∧ Below W.heap.size W wd)
    case first =>
      go_wp2_with (at_builtin; refine wpList_push 43 43 rfl rfl _ _ rfl W.heap.size (.slice none 0 0) [] rfl rfl (buf_nil _ _) (by simp) (Nat.le_refl _) ?_; intro v' w' X)
      go_meet
      case rel => exact ⟨X.buf, X.below⟩
    case rest =>
      rename_i hK
      refine hK _ _ ?_
      exact count_rest F _ _ aR aS aF n z true pr ln v0 p0 _ hF hV (by omega) (by omega) (by omega) (by omega) hcut.2 hcut.1 _ _ _ _ _ _ _ _ _ _ _ _ _ _ _ _ _ _ _ _ _ _ _ _ _ _ _ _ _ _ _ _ _ _ _ _ _ _ _ _ _ _ _ _ _ _ _ _ _ _ _ _ _ _ _ _ _ _ _ _ _ _ _ _ _ _ _ _ _ _ _ _ _ _ _ _ _ _ _ _ _ _ _ _ _ _ _ _ _ _ _ 

theorem ccountProved : Rows.LawS5254CCountToldSaid := ccount_card (fun os st H enc => liftN count_walk os st H enc)

end Go.Proofs.YbulkdducFmt

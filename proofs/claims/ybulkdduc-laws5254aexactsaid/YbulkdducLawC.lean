import Derived.Test.YbulkdducLawD
import Derived.Deep.CutBlock
namespace Go.Proofs.Ybulkdduc
open Go.RowKit Go.Sort
attribute [local go_sem ↓] Go.wp_at_zero Go.wp_at_succ

set_option linter.unusedVariables false

theorem mbox_zero (w : World) : MBox (w.alloc (.cells #[.string ⟨#[]⟩, .int .u64 0, .int .u64 0, .pointer none, .int .u16 0, .int .u64 0] 36)) w.heap.size ⟨#[]⟩ 0 :=
  ⟨by go_simp, by go_simp, by go_simp, by go_simp, by go_simp, by go_simp, by simp⟩
theorem mbox_new (w : World) (mn : ByteArray) (mi : Int) : MBox (w.alloc (.cells #[.string mn, .int .u64 0, .int .u64 0, .pointer none, .int .u16 0, .int .u64 mi] 36)) w.heap.size mn mi :=
  ⟨by go_simp, by go_simp, by go_simp, by go_simp, by go_simp, by go_simp, by simp⟩
theorem nm_case (q p : Nat) (hq : q ≤ 8) (hp : p ≤ 8) : (nm q = nm p ∧ (q : Int) = p) ∨ ¬ (nm q).toList = (nm p).toList := by
  by_cases h : q = p
  · subst h; exact Or.inl ⟨rfl, rfl⟩
  · exact Or.inr (by have := nm_ne hq hp h; simpa using this)
theorem nm_empty (p : Nat) : ¬ (⟨#[]⟩ : ByteArray).toList = (nm p).toList := by
  intro h
  have := congrArg List.length h
  simp [nm, ByteArray.toList_eq] at this

set_option maxRecDepth 100000 in
set_option maxHeartbeats 2000000 in
theorem partC_N (a0 a1 a2 : Int) (a3 : Bool) (a4 a5 a6 a7 a8 a9 a10 : Int) (w wc : World) (M mb k si b30 b31 b32 b33 b34 : Nat) (sn : ByteArray) (hbt tmo nb sb nc sc nh sh np sp na sa : Int) (xs0 : ByteArray) (xi0 : Int) (TB TC TH TP TA : Int) (pn qn : ByteArray) (pi qi : Int) (hA : AroundIs mb k sn pn qn pi qi false) (i20 : 0 ≤ a2) (i21 : a2 ≤ 255) (hk0 : 1 ≤ k) (hMw : w.heap.size ≤ M) (hfM : ∀ o, wc.frozen? ⟨M, o, none⟩ = false)
    (hk8 : k ≤ 8) (hb : Below w.heap.size w wc) (hM : Mach wc M mb k sn hbt tmo nb sb nh sh np sp na sa xs0 xi0 nc sc (.slice none 0 0)) (hT : Times wc M b30 b31 b32 b33 b34 nb sb nc sc nh sh np sp na sa)
    (tB : Tm nb sb TB) (tC : Tm nc sc TC) (tH : Tm nh sh TH) (tP : Tm np sp TP) (tA : Tm na sa TA) (bH0 : -100000000000 ≤ TH) (bH1 : TH ≤ 100000000000) (bP0 : -100000000000 ≤ TP) (bP1 : TP ≤ 100000000000) (bt0 : 0 ≤ tmo) (bt1 : tmo ≤ 100000000000) (bh0 : 0 ≤ hbt) (bh1 : hbt ≤ 100000000000) (u11 u12 u13 u14 u15 u16 u17 u18 u19 u20 u21 u22 u25 u27 u37 u38 u39 u40 u41 u42 u43 u44 u45 u46 u47 u48 u49 u50 u51 u52 u53 u54 u55 u56 u57 u58 u59 u60 u61 u62 u63 u64 u65 u66 u67 u68 u69 u70 u71 u72 u73 u74 u75 u76 u77 u78 u79 u80 u81 u82 u83 u84 u85 u86 u87 u88 u89 u90 u91 u92 u93 u94 u95 u96 u97 u98 u99 u100 u101 u102 u103 u104 u105 u106 u107 u108 u109 u110 u111 u112 u113 u114 u115 u116 u117 u118 u119 u120 u121 u122 u123 u124 u125 u126 u127 u128 u129 u130 u131 u132 u133 u134 u135 u136 u137 u138 u139 u140 u141 u142 u143 u144 u145 u146 u147 u148 u149 u150 u151 u152 u153 u154 u155 u156 u157 u158 u159 u160 u161 u162 u163 u164 u165 u166 u167 u168 u169 u170 u171 u172 u173 u174 u175 u176 u177 u178 u179 u180 u181 u182 u183 u184 u185 u186 u187 u188 u189 u190 u191 u192 u193 u194 u195 u196 u197 u198 u199 u200 u201 u202 u203 u204 u205 u206 u207 u208 u209 u210 u211 u212 u213 u214 u215 u216 u217 u218 u219 u220 u221 u222 u223 u224 u225 u226 u227 u228 u229 u230 u231 u232 u233 u234 u235 u236 u237 u238 u239 u240 u241 u242 u243 u244 u245 u246 u247 u248 u249 u250 u251 u252 u253 u254 u255 u256 u257 u258 u259 u260 u261 u262 : Value) :
    Code.wp Yba.prog (dropSeq 23 (Yba.f3.body.getD .skip)) (bodyPost Yba.prog Yba.f3 (Post w)) ⟨((.int .u8 a0) :: (.int .u8 a1) :: (.int .u8 a2) :: (.bool a3) :: (.int .i16 a4) :: (.int .i16 a5) :: (.int .i16 a6) :: (.int .i16 a7) :: (.int .i16 a8) :: (.int .u16 a9) :: (.int .u16 a10) :: u11 :: u12 :: u13 :: u14 :: u15 :: u16 :: u17 :: u18 :: u19 :: u20 :: u21 :: u22 :: (.int .i64 k) :: (.slice (some ⟨mb, 0, none⟩) k k) :: u25 :: (.int .i64 si) :: u27 :: (.int .i64 tmo) :: (.int .i64 hbt) :: (.pointer (some ⟨b30, 0, none⟩)) :: (.pointer (some ⟨b31, 0, none⟩)) :: (.pointer (some ⟨b32, 0, none⟩)) :: (.pointer (some ⟨b33, 0, none⟩)) :: (.pointer (some ⟨b34, 0, none⟩)) :: (.pointer (some ⟨M, 0, none⟩)) :: (.int .i64 (-1)) :: u37 :: u38 :: u39 :: u40 :: u41 :: u42 :: u43 :: u44 :: u45 :: u46 :: u47 :: u48 :: u49 :: u50 :: u51 :: u52 :: u53 :: u54 :: u55 :: u56 :: u57 :: u58 :: u59 :: u60 :: u61 :: u62 :: u63 :: u64 :: u65 :: u66 :: u67 :: u68 :: u69 :: u70 :: u71 :: u72 :: u73 :: u74 :: u75 :: u76 :: u77 :: u78 :: u79 :: u80 :: u81 :: u82 :: u83 :: u84 :: u85 :: u86 :: u87 :: u88 :: u89 :: u90 :: u91 :: u92 :: u93 :: u94 :: u95 :: u96 :: u97 :: u98 :: u99 :: u100 :: u101 :: u102 :: u103 :: u104 :: u105 :: u106 :: u107 :: u108 :: u109 :: u110 :: u111 :: u112 :: u113 :: u114 :: u115 :: u116 :: u117 :: u118 :: u119 :: u120 :: u121 :: u122 :: u123 :: u124 :: u125 :: u126 :: u127 :: u128 :: u129 :: u130 :: u131 :: u132 :: u133 :: u134 :: u135 :: u136 :: u137 :: u138 :: u139 :: u140 :: u141 :: u142 :: u143 :: u144 :: u145 :: u146 :: u147 :: u148 :: u149 :: u150 :: u151 :: u152 :: u153 :: u154 :: u155 :: u156 :: u157 :: u158 :: u159 :: u160 :: u161 :: u162 :: u163 :: u164 :: u165 :: u166 :: u167 :: u168 :: u169 :: u170 :: u171 :: u172 :: u173 :: u174 :: u175 :: u176 :: u177 :: u178 :: u179 :: u180 :: u181 :: u182 :: u183 :: u184 :: u185 :: u186 :: u187 :: u188 :: u189 :: u190 :: u191 :: u192 :: u193 :: u194 :: u195 :: u196 :: u197 :: u198 :: u199 :: u200 :: u201 :: u202 :: u203 :: u204 :: u205 :: u206 :: u207 :: u208 :: u209 :: u210 :: u211 :: u212 :: u213 :: u214 :: u215 :: u216 :: u217 :: u218 :: u219 :: u220 :: u221 :: u222 :: u223 :: u224 :: u225 :: u226 :: u227 :: u228 :: u229 :: u230 :: u231 :: u232 :: u233 :: u234 :: u235 :: u236 :: u237 :: u238 :: u239 :: u240 :: u241 :: u242 :: u243 :: u244 :: u245 :: u246 :: u247 :: u248 :: u249 :: u250 :: u251 :: u252 :: u253 :: u254 :: u255 :: u256 :: u257 :: u258 :: u259 :: u260 :: u261 :: u262 :: []).toArray, []⟩ wc := by
  conv => arg 2; whnf
  have hm := hM.mems
  obtain ⟨r, ht, hr⟩ : ∃ r : Int, a2.tmod 3 = r ∧ (r = 0 ∨ r = 1 ∨ r = 2) := ⟨a2 % 3, Int.tmod_eq_emod_of_nonneg i20, by omega⟩
  obtain ⟨q, hq, hqk⟩ : ∃ q : Nat, a2.tmod (k : Int) = q ∧ q < k := ⟨(a2 % (k : Int)).toNat, by rw [Int.tmod_eq_emod_of_nonneg i20]; have := Int.emod_nonneg a2 (show (k : Int) ≠ 0 by omega); omega, by have := Int.emod_nonneg a2 (show (k : Int) ≠ 0 by omega); have := Int.emod_lt_of_pos a2 (show (0 : Int) < (k : Int) by omega); omega⟩
  have hkz : ¬ (k : Int) = 0 := by omega
  have hqi : (q : Int) < k := by omega
  have hq0 : (0 : Int) ≤ q := by omega
  have hne : wc.heap.size ≠ M := by have := hM.lt; omega
  obtain ⟨b37, hb37⟩ : ∃ b : Nat, b = wc.heap.size := ⟨_, rfl⟩
  go_upto_block 2 with (fail)
  go_cut [] (fun wd => Below wc.heap.size wc wd ∧ ∃ (xs : ByteArray) (xi : Int), MBox wd b37 xs xi ∧ (True))
  case first =>
    subst hb37
    rcases hr with rfl | rfl | rfl
    · go_wp2_with fail
      go_meet
      case rel => exact ⟨b1 wc _, _, _, mbox_zero wc, trivial⟩
    · have e0 := hm.c0 q hqk; have e1 := hm.c1 q hqk; have e2 := hm.c2 q hqk; have e3 := hm.c3 q hqk; have e4 := hm.c4 q hqk; have e5 := hm.c5 q hqk;
      have hml := hm.lt
      have hnb : ¬ wc.heap.size = mb := by omega
      go_wp2_with fail
      go_meet
      case rel =>
        exact ⟨b1 wc _, nm q, q, mbox_new wc (nm q) q, trivial⟩
    · go_wp2_with fail
      go_meet
      case rel => exact ⟨b1 wc _, _, _, mbox_zero wc, trivial⟩
  case rest =>
    obtain ⟨hbd, xs, xi, hX, hx⟩ := hcut
    rename_i hK
    refine hK _ _ ?_
    rw [← hb37]
    rw [← hb37] at hne
    have hb := bon hb hbd
    have hT := hT.on hbd
    have hfM : ∀ o, wc.frozen? ⟨M, o, none⟩ = false := fun o => ((bcell hbd).2.1 M o hM.lt).trans (hfM o)
    have hM := hM.on hbd
    clear hbd hb37 hm
    go_upto_region 36 with (fail)
    go_cut [] (fun wd => Below w.heap.size w wd ∧ Mach wd M mb k sn hbt tmo nb sb nh sh np sp na sa xs xi nc sc (.slice none 0 0) ∧ Times wd M b30 b31 b32 b33 b34 nb sb nc sc nh sh np sp na sa ∧ MBox wd b37 xs xi ∧ ∀ o, wd.frozen? ⟨M, o, none⟩ = false)
    case first =>
      obtain ⟨e0, e1, e2, e3, e4, e5, el⟩ := id hX
      have g0 := hM.f76; have g1 := hM.f77; have g2 := hM.f78; have g3 := hM.f79; have g4 := hM.f80; have g5 := hM.f81
      have hfM' := hfM
      have hne' : ¬ M = b37 := fun e => hne e.symm
      go_wp2_with fail
      go_meet
      case rel =>
        have ho : Only M wc ((((((wc.setCell ⟨M, 76, none⟩ (.string xs)).setCell ⟨M, 77, none⟩ (.int .u64 0)).setCell ⟨M, 78, none⟩ (.int .u64 0)).setCell ⟨M, 79, none⟩ (.pointer none)).setCell ⟨M, 80, none⟩ (.int .u16 0)).setCell ⟨M, 81, none⟩ (.int .u64 xi)) := ((((((Only.refl _ _).set _).set _).set _).set _).set _).set _
        refine ⟨?_, hM.setSus xs xi, hT.only ho, hX.only ho hne, fun o => ?_⟩
        · exact (((((hb.setCell hMw _).setCell hMw _).setCell hMw _).setCell hMw _).setCell hMw _).setCell hMw _
        · simpa only [World.frozen?_setCell] using hfM' o
    case rest =>
      obtain ⟨hb, hM, hT, hX, hfM⟩ := hcut
      rename_i hK
      refine hK _ _ ?_
      exact partD_N a0 a1 a2 a3 a4 a5 a6 a7 a8 a9 a10 w _ M mb k si b30 b31 b32 b33 b34 b37 sn hbt tmo nb sb nc sc nh sh np sp na sa xs xi TB TC TH TP TA pn qn pi qi hA hk8 hb hM hT hX tB tC tH tP tA bH0 bH1 bP0 bP1 bt0 bt1 bh0 bh1 _ _ _ _ _ _ _ _ _ _ _ _ _ _ _ _ _ _ _ _ _ _ _ _ _ _ _ _ _ _ _ _ _ _ _ _ _ _ _ _ _ _ _ _ _ _ _ _ _ _ _ _ _ _ _ _ _ _ _ _ _ _ _ _ _ _ _ _ _ _ _ _ _ _ _ _ _ _ _ _ _ _ _ _ _ _ _ _ _ _ _ _ _ _ _ _ _ _ _ _ _ _ _ _ _ _ _ _ _ _ _ _ _ _ _ _ _ _ _ _ _ _ _ _ _ _ _ _ _ _ _ _ _ _ _ _ _ _ _ _ _ _ _ _ _ _ _ _ _ _ _ _ _ _ _ _ _ _ _ _ _ _ _ _ _ _ _ _ _ _ _ _ _ _ _ _ _ _ _ _ _ _ _ _ _ _ _ _ _ _ _ _ _ _ _ _ _ _ _ _ _ _ _ _ _ _ _ _ _ _ _ _ _ _ _ _ _ _ _ _ _ _ _ _ _ _ _ _ _ _ _ _ _ _ _ _ _ _ _

set_option maxRecDepth 100000 in
set_option maxHeartbeats 2000000 in
theorem partC_P (a0 a1 a2 : Int) (a3 : Bool) (a4 a5 a6 a7 a8 a9 a10 : Int) (w wc : World) (M mb k si b30 b31 b32 b33 b34 : Nat) (sn : ByteArray) (hbt tmo nb sb nc sc nh sh np sp na sa : Int) (xs0 : ByteArray) (xi0 : Int) (TB TC TH TP TA : Int) (p : Nat) (qn : ByteArray) (qi : Int) (hpk : p < k) (h2 : 2 ≤ k) (hA : AroundIs mb k sn (nm p) qn p qi true) (i20 : 0 ≤ a2) (i21 : a2 ≤ 255) (hk0 : 1 ≤ k) (hMw : w.heap.size ≤ M) (hfM : ∀ o, wc.frozen? ⟨M, o, none⟩ = false)
    (hk8 : k ≤ 8) (hb : Below w.heap.size w wc) (hM : Mach wc M mb k sn hbt tmo nb sb nh sh np sp na sa xs0 xi0 nc sc (.slice none 0 0)) (hT : Times wc M b30 b31 b32 b33 b34 nb sb nc sc nh sh np sp na sa)
    (tB : Tm nb sb TB) (tC : Tm nc sc TC) (tH : Tm nh sh TH) (tP : Tm np sp TP) (tA : Tm na sa TA) (bH0 : -100000000000 ≤ TH) (bH1 : TH ≤ 100000000000) (bP0 : -100000000000 ≤ TP) (bP1 : TP ≤ 100000000000) (bt0 : 0 ≤ tmo) (bt1 : tmo ≤ 100000000000) (bh0 : 0 ≤ hbt) (bh1 : hbt ≤ 100000000000) (u11 u12 u13 u14 u15 u16 u17 u18 u19 u20 u21 u22 u25 u27 u37 u38 u39 u40 u41 u42 u43 u44 u45 u46 u47 u48 u49 u50 u51 u52 u53 u54 u55 u56 u57 u58 u59 u60 u61 u62 u63 u64 u65 u66 u67 u68 u69 u70 u71 u72 u73 u74 u75 u76 u77 u78 u79 u80 u81 u82 u83 u84 u85 u86 u87 u88 u89 u90 u91 u92 u93 u94 u95 u96 u97 u98 u99 u100 u101 u102 u103 u104 u105 u106 u107 u108 u109 u110 u111 u112 u113 u114 u115 u116 u117 u118 u119 u120 u121 u122 u123 u124 u125 u126 u127 u128 u129 u130 u131 u132 u133 u134 u135 u136 u137 u138 u139 u140 u141 u142 u143 u144 u145 u146 u147 u148 u149 u150 u151 u152 u153 u154 u155 u156 u157 u158 u159 u160 u161 u162 u163 u164 u165 u166 u167 u168 u169 u170 u171 u172 u173 u174 u175 u176 u177 u178 u179 u180 u181 u182 u183 u184 u185 u186 u187 u188 u189 u190 u191 u192 u193 u194 u195 u196 u197 u198 u199 u200 u201 u202 u203 u204 u205 u206 u207 u208 u209 u210 u211 u212 u213 u214 u215 u216 u217 u218 u219 u220 u221 u222 u223 u224 u225 u226 u227 u228 u229 u230 u231 u232 u233 u234 u235 u236 u237 u238 u239 u240 u241 u242 u243 u244 u245 u246 u247 u248 u249 u250 u251 u252 u253 u254 u255 u256 u257 u258 u259 u260 u261 u262 : Value) :
    Code.wp Yba.prog (dropSeq 23 (Yba.f3.body.getD .skip)) (bodyPost Yba.prog Yba.f3 (Post w)) ⟨((.int .u8 a0) :: (.int .u8 a1) :: (.int .u8 a2) :: (.bool a3) :: (.int .i16 a4) :: (.int .i16 a5) :: (.int .i16 a6) :: (.int .i16 a7) :: (.int .i16 a8) :: (.int .u16 a9) :: (.int .u16 a10) :: u11 :: u12 :: u13 :: u14 :: u15 :: u16 :: u17 :: u18 :: u19 :: u20 :: u21 :: u22 :: (.int .i64 k) :: (.slice (some ⟨mb, 0, none⟩) k k) :: u25 :: (.int .i64 si) :: u27 :: (.int .i64 tmo) :: (.int .i64 hbt) :: (.pointer (some ⟨b30, 0, none⟩)) :: (.pointer (some ⟨b31, 0, none⟩)) :: (.pointer (some ⟨b32, 0, none⟩)) :: (.pointer (some ⟨b33, 0, none⟩)) :: (.pointer (some ⟨b34, 0, none⟩)) :: (.pointer (some ⟨M, 0, none⟩)) :: (.int .i64 p) :: u37 :: u38 :: u39 :: u40 :: u41 :: u42 :: u43 :: u44 :: u45 :: u46 :: u47 :: u48 :: u49 :: u50 :: u51 :: u52 :: u53 :: u54 :: u55 :: u56 :: u57 :: u58 :: u59 :: u60 :: u61 :: u62 :: u63 :: u64 :: u65 :: u66 :: u67 :: u68 :: u69 :: u70 :: u71 :: u72 :: u73 :: u74 :: u75 :: u76 :: u77 :: u78 :: u79 :: u80 :: u81 :: u82 :: u83 :: u84 :: u85 :: u86 :: u87 :: u88 :: u89 :: u90 :: u91 :: u92 :: u93 :: u94 :: u95 :: u96 :: u97 :: u98 :: u99 :: u100 :: u101 :: u102 :: u103 :: u104 :: u105 :: u106 :: u107 :: u108 :: u109 :: u110 :: u111 :: u112 :: u113 :: u114 :: u115 :: u116 :: u117 :: u118 :: u119 :: u120 :: u121 :: u122 :: u123 :: u124 :: u125 :: u126 :: u127 :: u128 :: u129 :: u130 :: u131 :: u132 :: u133 :: u134 :: u135 :: u136 :: u137 :: u138 :: u139 :: u140 :: u141 :: u142 :: u143 :: u144 :: u145 :: u146 :: u147 :: u148 :: u149 :: u150 :: u151 :: u152 :: u153 :: u154 :: u155 :: u156 :: u157 :: u158 :: u159 :: u160 :: u161 :: u162 :: u163 :: u164 :: u165 :: u166 :: u167 :: u168 :: u169 :: u170 :: u171 :: u172 :: u173 :: u174 :: u175 :: u176 :: u177 :: u178 :: u179 :: u180 :: u181 :: u182 :: u183 :: u184 :: u185 :: u186 :: u187 :: u188 :: u189 :: u190 :: u191 :: u192 :: u193 :: u194 :: u195 :: u196 :: u197 :: u198 :: u199 :: u200 :: u201 :: u202 :: u203 :: u204 :: u205 :: u206 :: u207 :: u208 :: u209 :: u210 :: u211 :: u212 :: u213 :: u214 :: u215 :: u216 :: u217 :: u218 :: u219 :: u220 :: u221 :: u222 :: u223 :: u224 :: u225 :: u226 :: u227 :: u228 :: u229 :: u230 :: u231 :: u232 :: u233 :: u234 :: u235 :: u236 :: u237 :: u238 :: u239 :: u240 :: u241 :: u242 :: u243 :: u244 :: u245 :: u246 :: u247 :: u248 :: u249 :: u250 :: u251 :: u252 :: u253 :: u254 :: u255 :: u256 :: u257 :: u258 :: u259 :: u260 :: u261 :: u262 :: []).toArray, []⟩ wc := by
  have hp0 : (0 : Int) ≤ p := by omega
  have hpi : (p : Int) < k := by omega
  conv => arg 2; whnf
  have hm := hM.mems
  obtain ⟨r, ht, hr⟩ : ∃ r : Int, a2.tmod 3 = r ∧ (r = 0 ∨ r = 1 ∨ r = 2) := ⟨a2 % 3, Int.tmod_eq_emod_of_nonneg i20, by omega⟩
  obtain ⟨q, hq, hqk⟩ : ∃ q : Nat, a2.tmod (k : Int) = q ∧ q < k := ⟨(a2 % (k : Int)).toNat, by rw [Int.tmod_eq_emod_of_nonneg i20]; have := Int.emod_nonneg a2 (show (k : Int) ≠ 0 by omega); omega, by have := Int.emod_nonneg a2 (show (k : Int) ≠ 0 by omega); have := Int.emod_lt_of_pos a2 (show (0 : Int) < (k : Int) by omega); omega⟩
  have hkz : ¬ (k : Int) = 0 := by omega
  have hqi : (q : Int) < k := by omega
  have hq0 : (0 : Int) ≤ q := by omega
  have hne : wc.heap.size ≠ M := by have := hM.lt; omega
  obtain ⟨b37, hb37⟩ : ∃ b : Nat, b = wc.heap.size := ⟨_, rfl⟩
  go_upto_block 2 with (fail)
  go_cut [] (fun wd => Below wc.heap.size wc wd ∧ ∃ (xs : ByteArray) (xi : Int), MBox wd b37 xs xi ∧ ((xs = nm p ∧ xi = p) ∨ ¬ xs.toList = (nm p).toList))
  case first =>
    subst hb37
    rcases hr with rfl | rfl | rfl
    · have e0 := hm.c0 p hpk; have e1 := hm.c1 p hpk; have e2 := hm.c2 p hpk; have e3 := hm.c3 p hpk; have e4 := hm.c4 p hpk; have e5 := hm.c5 p hpk;
      have hml := hm.lt
      have hnb : ¬ wc.heap.size = mb := by omega
      go_wp2_with fail
      go_meet
      case rel =>
        exact ⟨b1 wc _, nm p, p, mbox_new wc (nm p) p, Or.inl ⟨rfl, rfl⟩⟩
    · have e0 := hm.c0 q hqk; have e1 := hm.c1 q hqk; have e2 := hm.c2 q hqk; have e3 := hm.c3 q hqk; have e4 := hm.c4 q hqk; have e5 := hm.c5 q hqk;
      have hml := hm.lt
      have hnb : ¬ wc.heap.size = mb := by omega
      go_wp2_with fail
      go_meet
      case rel =>
        exact ⟨b1 wc _, nm q, q, mbox_new wc (nm q) q, nm_case q p (by omega) (by omega)⟩
    · go_wp2_with fail
      go_meet
      case rel => exact ⟨b1 wc _, _, _, mbox_zero wc, Or.inr (nm_empty p)⟩
  case rest =>
    obtain ⟨hbd, xs, xi, hX, hx⟩ := hcut
    rename_i hK
    refine hK _ _ ?_
    rw [← hb37]
    rw [← hb37] at hne
    have hb := bon hb hbd
    have hT := hT.on hbd
    have hfM : ∀ o, wc.frozen? ⟨M, o, none⟩ = false := fun o => ((bcell hbd).2.1 M o hM.lt).trans (hfM o)
    have hM := hM.on hbd
    clear hbd hb37 hm
    go_upto_region 36 with (fail)
    go_cut [] (fun wd => Below w.heap.size w wd ∧ Mach wd M mb k sn hbt tmo nb sb nh sh np sp na sa xs xi nc sc (.slice none 0 0) ∧ Times wd M b30 b31 b32 b33 b34 nb sb nc sc nh sh np sp na sa ∧ MBox wd b37 xs xi ∧ ∀ o, wd.frozen? ⟨M, o, none⟩ = false)
    case first =>
      obtain ⟨e0, e1, e2, e3, e4, e5, el⟩ := id hX
      have g0 := hM.f76; have g1 := hM.f77; have g2 := hM.f78; have g3 := hM.f79; have g4 := hM.f80; have g5 := hM.f81
      have hfM' := hfM
      have hne' : ¬ M = b37 := fun e => hne e.symm
      go_wp2_with fail
      go_meet
      case rel =>
        have ho : Only M wc ((((((wc.setCell ⟨M, 76, none⟩ (.string xs)).setCell ⟨M, 77, none⟩ (.int .u64 0)).setCell ⟨M, 78, none⟩ (.int .u64 0)).setCell ⟨M, 79, none⟩ (.pointer none)).setCell ⟨M, 80, none⟩ (.int .u16 0)).setCell ⟨M, 81, none⟩ (.int .u64 xi)) := ((((((Only.refl _ _).set _).set _).set _).set _).set _).set _
        refine ⟨?_, hM.setSus xs xi, hT.only ho, hX.only ho hne, fun o => ?_⟩
        · exact (((((hb.setCell hMw _).setCell hMw _).setCell hMw _).setCell hMw _).setCell hMw _).setCell hMw _
        · simpa only [World.frozen?_setCell] using hfM' o
    case rest =>
      obtain ⟨hb, hM, hT, hX, hfM⟩ := hcut
      rename_i hK
      refine hK _ _ ?_
      exact partD_P a0 a1 a2 a3 a4 a5 a6 a7 a8 a9 a10 w _ M mb k si b30 b31 b32 b33 b34 b37 sn hbt tmo nb sb nc sc nh sh np sp na sa xs xi TB TC TH TP TA p qn qi hpk h2 hMw hfM hne hx hA hk8 hb hM hT hX tB tC tH tP tA bH0 bH1 bP0 bP1 bt0 bt1 bh0 bh1 _ _ _ _ _ _ _ _ _ _ _ _ _ _ _ _ _ _ _ _ _ _ _ _ _ _ _ _ _ _ _ _ _ _ _ _ _ _ _ _ _ _ _ _ _ _ _ _ _ _ _ _ _ _ _ _ _ _ _ _ _ _ _ _ _ _ _ _ _ _ _ _ _ _ _ _ _ _ _ _ _ _ _ _ _ _ _ _ _ _ _ _ _ _ _ _ _ _ _ _ _ _ _ _ _ _ _ _ _ _ _ _ _ _ _ _ _ _ _ _ _ _ _ _ _ _ _ _ _ _ _ _ _ _ _ _ _ _ _ _ _ _ _ _ _ _ _ _ _ _ _ _ _ _ _ _ _ _ _ _ _ _ _ _ _ _ _ _ _ _ _ _ _ _ _ _ _ _ _ _ _ _ _ _ _ _ _ _ _ _ _ _ _ _ _ _ _ _ _ _ _ _ _ _ _ _ _ _ _ _ _ _ _ _ _ _ _ _ _ _ _ _ _ _ _ _ _ _ _ _ _ _ _ _ _ _ _ _ _

end Go.Proofs.Ybulkdduc

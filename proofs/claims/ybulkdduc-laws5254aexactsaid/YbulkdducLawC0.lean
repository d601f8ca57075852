import Derived.Test.YbulkdducLawC
namespace Go.Proofs.Ybulkdduc
open Go.RowKit Go.Sort
attribute [local go_sem ↓] Go.wp_at_zero Go.wp_at_succ

set_option linter.unusedVariables false

theorem around_nm (B k si : Nat) (hk : k ≤ 8) (h2 : 2 ≤ k) (hs : si < k) : ∃ p q : Nat, ((si : Int) + k - 1).tmod k = p ∧ p < k ∧ AroundIs B k (nm si) (nm p) (nm q) p q true := by
  have h1 : (si : Int) + k - 1 = ((si + k - 1 : Nat) : Int) := by omega
  have h3 : (si : Int) + 1 = ((si + 1 : Nat) : Int) := by omega
  refine ⟨(si + k - 1) % k, (si + 1) % k, ?_, Nat.mod_lt _ (by omega), ?_⟩
  · rw [h1, Int.tmod_eq_emod_of_nonneg (by omega)]; rfl
  · intro w' hm
    refine around_hit B k (nm si) si ((si + k - 1) % k) ((si + 1) % k) w' hk h2 hm hs (by simp) (fun i hi => nm_ne (by omega) (by omega) (by omega)) ?_ ?_ (Nat.mod_lt _ (by omega)) (Nat.mod_lt _ (by omega))
    · rw [h1, Int.tmod_eq_emod_of_nonneg (by omega)]; rfl
    · rw [h3, Int.tmod_eq_emod_of_nonneg (by omega)]; rfl

theorem around_no (B k si : Nat) (sn : ByteArray) (hk : k ≤ 8) (hk0 : 1 ≤ k) (hsn : sn = if si < k then nm si else ⟨#[122]⟩) (h : ¬ (si < k ∧ 2 ≤ k)) : AroundIs B k sn ⟨#[]⟩ ⟨#[]⟩ 0 0 false := by
  intro w' hm
  by_cases hs : si < k
  · obtain rfl : k = 1 := by omega
    obtain rfl : si = 0 := by omega
    rw [if_pos hs] at hsn
    subst hsn
    exact around_lone B (nm 0) w' hm (by simp)
  · rw [if_neg hs] at hsn
    subst hsn
    exact around_miss B k _ w' hk hm (fun i hi => nm_z (by omega))

set_option maxRecDepth 100000 in
set_option maxHeartbeats 2000000 in
theorem partC (a0 a1 a2 : Int) (a3 : Bool) (a4 a5 a6 a7 a8 a9 a10 : Int) (w wc : World) (M mb k si b30 b31 b32 b33 b34 : Nat) (sn : ByteArray) (hbt tmo nb sb nc sc nh sh np sp na sa : Int) (xs0 : ByteArray) (xi0 : Int) (TB TC TH TP TA : Int) (hsl : si < k + 1) (hsn : sn = if si < k then nm si else ⟨#[122]⟩) (i20 : 0 ≤ a2) (i21 : a2 ≤ 255) (hk0 : 1 ≤ k) (hMw : w.heap.size ≤ M) (hfM : ∀ o, wc.frozen? ⟨M, o, none⟩ = false)
    (hk8 : k ≤ 8) (hb : Below w.heap.size w wc) (hM : Mach wc M mb k sn hbt tmo nb sb nh sh np sp na sa xs0 xi0 nc sc (.slice none 0 0)) (hT : Times wc M b30 b31 b32 b33 b34 nb sb nc sc nh sh np sp na sa)
    (tB : Tm nb sb TB) (tC : Tm nc sc TC) (tH : Tm nh sh TH) (tP : Tm np sp TP) (tA : Tm na sa TA) (bH0 : -100000000000 ≤ TH) (bH1 : TH ≤ 100000000000) (bP0 : -100000000000 ≤ TP) (bP1 : TP ≤ 100000000000) (bt0 : 0 ≤ tmo) (bt1 : tmo ≤ 100000000000) (bh0 : 0 ≤ hbt) (bh1 : hbt ≤ 100000000000) (u11 u12 u13 u14 u15 u16 u17 u18 u19 u20 u21 u22 u25 u27 u36 u37 u38 u39 u40 u41 u42 u43 u44 u45 u46 u47 u48 u49 u50 u51 u52 u53 u54 u55 u56 u57 u58 u59 u60 u61 u62 u63 u64 u65 u66 u67 u68 u69 u70 u71 u72 u73 u74 u75 u76 u77 u78 u79 u80 u81 u82 u83 u84 u85 u86 u87 u88 u89 u90 u91 u92 u93 u94 u95 u96 u97 u98 u99 u100 u101 u102 u103 u104 u105 u106 u107 u108 u109 u110 u111 u112 u113 u114 u115 u116 u117 u118 u119 u120 u121 u122 u123 u124 u125 u126 u127 u128 u129 u130 u131 u132 u133 u134 u135 u136 u137 u138 u139 u140 u141 u142 u143 u144 u145 u146 u147 u148 u149 u150 u151 u152 u153 u154 u155 u156 u157 u158 u159 u160 u161 u162 u163 u164 u165 u166 u167 u168 u169 u170 u171 u172 u173 u174 u175 u176 u177 u178 u179 u180 u181 u182 u183 u184 u185 u186 u187 u188 u189 u190 u191 u192 u193 u194 u195 u196 u197 u198 u199 u200 u201 u202 u203 u204 u205 u206 u207 u208 u209 u210 u211 u212 u213 u214 u215 u216 u217 u218 u219 u220 u221 u222 u223 u224 u225 u226 u227 u228 u229 u230 u231 u232 u233 u234 u235 u236 u237 u238 u239 u240 u241 u242 u243 u244 u245 u246 u247 u248 u249 u250 u251 u252 u253 u254 u255 u256 u257 u258 u259 u260 u261 u262 : Value) :
    Code.wp Yba.prog (dropSeq 21 (Yba.f3.body.getD .skip)) (bodyPost Yba.prog Yba.f3 (Post w)) ⟨((.int .u8 a0) :: (.int .u8 a1) :: (.int .u8 a2) :: (.bool a3) :: (.int .i16 a4) :: (.int .i16 a5) :: (.int .i16 a6) :: (.int .i16 a7) :: (.int .i16 a8) :: (.int .u16 a9) :: (.int .u16 a10) :: u11 :: u12 :: u13 :: u14 :: u15 :: u16 :: u17 :: u18 :: u19 :: u20 :: u21 :: u22 :: (.int .i64 k) :: (.slice (some ⟨mb, 0, none⟩) k k) :: u25 :: (.int .i64 si) :: u27 :: (.int .i64 tmo) :: (.int .i64 hbt) :: (.pointer (some ⟨b30, 0, none⟩)) :: (.pointer (some ⟨b31, 0, none⟩)) :: (.pointer (some ⟨b32, 0, none⟩)) :: (.pointer (some ⟨b33, 0, none⟩)) :: (.pointer (some ⟨b34, 0, none⟩)) :: (.pointer (some ⟨M, 0, none⟩)) :: u36 :: u37 :: u38 :: u39 :: u40 :: u41 :: u42 :: u43 :: u44 :: u45 :: u46 :: u47 :: u48 :: u49 :: u50 :: u51 :: u52 :: u53 :: u54 :: u55 :: u56 :: u57 :: u58 :: u59 :: u60 :: u61 :: u62 :: u63 :: u64 :: u65 :: u66 :: u67 :: u68 :: u69 :: u70 :: u71 :: u72 :: u73 :: u74 :: u75 :: u76 :: u77 :: u78 :: u79 :: u80 :: u81 :: u82 :: u83 :: u84 :: u85 :: u86 :: u87 :: u88 :: u89 :: u90 :: u91 :: u92 :: u93 :: u94 :: u95 :: u96 :: u97 :: u98 :: u99 :: u100 :: u101 :: u102 :: u103 :: u104 :: u105 :: u106 :: u107 :: u108 :: u109 :: u110 :: u111 :: u112 :: u113 :: u114 :: u115 :: u116 :: u117 :: u118 :: u119 :: u120 :: u121 :: u122 :: u123 :: u124 :: u125 :: u126 :: u127 :: u128 :: u129 :: u130 :: u131 :: u132 :: u133 :: u134 :: u135 :: u136 :: u137 :: u138 :: u139 :: u140 :: u141 :: u142 :: u143 :: u144 :: u145 :: u146 :: u147 :: u148 :: u149 :: u150 :: u151 :: u152 :: u153 :: u154 :: u155 :: u156 :: u157 :: u158 :: u159 :: u160 :: u161 :: u162 :: u163 :: u164 :: u165 :: u166 :: u167 :: u168 :: u169 :: u170 :: u171 :: u172 :: u173 :: u174 :: u175 :: u176 :: u177 :: u178 :: u179 :: u180 :: u181 :: u182 :: u183 :: u184 :: u185 :: u186 :: u187 :: u188 :: u189 :: u190 :: u191 :: u192 :: u193 :: u194 :: u195 :: u196 :: u197 :: u198 :: u199 :: u200 :: u201 :: u202 :: u203 :: u204 :: u205 :: u206 :: u207 :: u208 :: u209 :: u210 :: u211 :: u212 :: u213 :: u214 :: u215 :: u216 :: u217 :: u218 :: u219 :: u220 :: u221 :: u222 :: u223 :: u224 :: u225 :: u226 :: u227 :: u228 :: u229 :: u230 :: u231 :: u232 :: u233 :: u234 :: u235 :: u236 :: u237 :: u238 :: u239 :: u240 :: u241 :: u242 :: u243 :: u244 :: u245 :: u246 :: u247 :: u248 :: u249 :: u250 :: u251 :: u252 :: u253 :: u254 :: u255 :: u256 :: u257 :: u258 :: u259 :: u260 :: u261 :: u262 :: []).toArray, []⟩ wc := by
  have hkz : ¬ (k : Int) = 0 := by omega
  by_cases hc : si < k ∧ 2 ≤ k
  · obtain ⟨h1, h2⟩ := hc
    obtain ⟨p, q, hp, hpk, hA⟩ := around_nm mb k si hk8 h2 h1
    rw [if_pos h1] at hsn
    subst hsn
    have h1i : (si : Int) < k := by omega
    have h2i : (2 : Int) ≤ k := by omega
    have v1 : IntKind.i64.wrap ((si : Int) + k) = si + k := by rw [IntKind.wrap_i64]; omega
    have v2 : IntKind.i64.wrap ((si : Int) + k - 1) = si + k - 1 := by rw [IntKind.wrap_i64]; omega
    conv => arg 2; whnf
    go_upto_if 130 with (fail)
    go_cut [36] (fun v wd => v = .int .i64 p ∧ Below wc.heap.size wc wd)
    case first =>
      go_wp2_with fail
      go_meet
      case rel => exact ⟨rfl, Below.refl _ _⟩
    case rest =>
      obtain ⟨rfl, hbd⟩ := hcut
      rename_i hK
      refine hK _ _ ?_
      have hb := bon hb hbd
      have hT := hT.on hbd
      have hfM : ∀ o, wc.frozen? ⟨M, o, none⟩ = false := fun o => ((bcell hbd).2.1 M o hM.lt).trans (hfM o)
      have hM := hM.on hbd
      exact partC_P a0 a1 a2 a3 a4 a5 a6 a7 a8 a9 a10 w _ M mb k si b30 b31 b32 b33 b34 (nm si) hbt tmo nb sb nc sc nh sh np sp na sa xs0 xi0 TB TC TH TP TA p (nm q) q hpk h2 hA i20 i21 hk0 hMw hfM hk8 hb hM hT tB tC tH tP tA bH0 bH1 bP0 bP1 bt0 bt1 bh0 bh1 _ _ _ _ _ _ _ _ _ _ _ _ _ _ _ _ _ _ _ _ _ _ _ _ _ _ _ _ _ _ _ _ _ _ _ _ _ _ _ _ _ _ _ _ _ _ _ _ _ _ _ _ _ _ _ _ _ _ _ _ _ _ _ _ _ _ _ _ _ _ _ _ _ _ _ _ _ _ _ _ _ _ _ _ _ _ _ _ _ _ _ _ _ _ _ _ _ _ _ _ _ _ _ _ _ _ _ _ _ _ _ _ _ _ _ _ _ _ _ _ _ _ _ _ _ _ _ _ _ _ _ _ _ _ _ _ _ _ _ _ _ _ _ _ _ _ _ _ _ _ _ _ _ _ _ _ _ _ _ _ _ _ _ _ _ _ _ _ _ _ _ _ _ _ _ _ _ _ _ _ _ _ _ _ _ _ _ _ _ _ _ _ _ _ _ _ _ _ _ _ _ _ _ _ _ _ _ _ _ _ _ _ _ _ _ _ _ _ _ _ _ _ _ _ _ _ _ _ _ _ _ _ _ _ _ _ _ _ _ _
  · have hA := around_no mb k si sn hk8 hk0 hsn hc
    conv => arg 2; whnf
    by_cases h1 : si < k
    · have h1i : (si : Int) < k := by omega
      have h2i : ¬ (2 : Int) ≤ k := by omega
      go_upto_if 130 with (fail)
      go_cut [36] (fun v wd => v = .int .i64 (-1) ∧ Below wc.heap.size wc wd)
      case first =>
        go_wp2_with fail
        go_meet
        case rel => exact ⟨rfl, Below.refl _ _⟩
      case rest =>
        obtain ⟨rfl, hbd⟩ := hcut
        rename_i hK
        refine hK _ _ ?_
        have hb := bon hb hbd
        have hT := hT.on hbd
        have hfM : ∀ o, wc.frozen? ⟨M, o, none⟩ = false := fun o => ((bcell hbd).2.1 M o hM.lt).trans (hfM o)
        have hM := hM.on hbd
        exact partC_N a0 a1 a2 a3 a4 a5 a6 a7 a8 a9 a10 w _ M mb k si b30 b31 b32 b33 b34 sn hbt tmo nb sb nc sc nh sh np sp na sa xs0 xi0 TB TC TH TP TA ⟨#[]⟩ ⟨#[]⟩ 0 0 hA i20 i21 hk0 hMw hfM hk8 hb hM hT tB tC tH tP tA bH0 bH1 bP0 bP1 bt0 bt1 bh0 bh1 _ _ _ _ _ _ _ _ _ _ _ _ _ _ _ _ _ _ _ _ _ _ _ _ _ _ _ _ _ _ _ _ _ _ _ _ _ _ _ _ _ _ _ _ _ _ _ _ _ _ _ _ _ _ _ _ _ _ _ _ _ _ _ _ _ _ _ _ _ _ _ _ _ _ _ _ _ _ _ _ _ _ _ _ _ _ _ _ _ _ _ _ _ _ _ _ _ _ _ _ _ _ _ _ _ _ _ _ _ _ _ _ _ _ _ _ _ _ _ _ _ _ _ _ _ _ _ _ _ _ _ _ _ _ _ _ _ _ _ _ _ _ _ _ _ _ _ _ _ _ _ _ _ _ _ _ _ _ _ _ _ _ _ _ _ _ _ _ _ _ _ _ _ _ _ _ _ _ _ _ _ _ _ _ _ _ _ _ _ _ _ _ _ _ _ _ _ _ _ _ _ _ _ _ _ _ _ _ _ _ _ _ _ _ _ _ _ _ _ _ _ _ _ _ _ _ _ _ _ _ _ _ _ _ _ _ _ _ _ _
    · have h1i : ¬ (si : Int) < k := by omega
      go_upto_if 130 with (fail)
      go_cut [36] (fun v wd => v = .int .i64 (-1) ∧ Below wc.heap.size wc wd)
      case first =>
        go_wp2_with fail
        go_meet
        case rel => exact ⟨rfl, Below.refl _ _⟩
      case rest =>
        obtain ⟨rfl, hbd⟩ := hcut
        rename_i hK
        refine hK _ _ ?_
        have hb := bon hb hbd
        have hT := hT.on hbd
        have hfM : ∀ o, wc.frozen? ⟨M, o, none⟩ = false := fun o => ((bcell hbd).2.1 M o hM.lt).trans (hfM o)
        have hM := hM.on hbd
        exact partC_N a0 a1 a2 a3 a4 a5 a6 a7 a8 a9 a10 w _ M mb k si b30 b31 b32 b33 b34 sn hbt tmo nb sb nc sc nh sh np sp na sa xs0 xi0 TB TC TH TP TA ⟨#[]⟩ ⟨#[]⟩ 0 0 hA i20 i21 hk0 hMw hfM hk8 hb hM hT tB tC tH tP tA bH0 bH1 bP0 bP1 bt0 bt1 bh0 bh1 _ _ _ _ _ _ _ _ _ _ _ _ _ _ _ _ _ _ _ _ _ _ _ _ _ _ _ _ _ _ _ _ _ _ _ _ _ _ _ _ _ _ _ _ _ _ _ _ _ _ _ _ _ _ _ _ _ _ _ _ _ _ _ _ _ _ _ _ _ _ _ _ _ _ _ _ _ _ _ _ _ _ _ _ _ _ _ _ _ _ _ _ _ _ _ _ _ _ _ _ _ _ _ _ _ _ _ _ _ _ _ _ _ _ _ _ _ _ _ _ _ _ _ _ _ _ _ _ _ _ _ _ _ _ _ _ _ _ _ _ _ _ _ _ _ _ _ _ _ _ _ _ _ _ _ _ _ _ _ _ _ _ _ _ _ _ _ _ _ _ _ _ _ _ _ _ _ _ _ _ _ _ _ _ _ _ _ _ _ _ _ _ _ _ _ _ _ _ _ _ _ _ _ _ _ _ _ _ _ _ _ _ _ _ _ _ _ _ _ _ _ _ _ _ _ _ _ _ _ _ _ _ _ _ _ _ _ _ _ _

end Go.Proofs.Ybulkdduc

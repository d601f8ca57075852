import Derived.Test.YbulkdducLawE
namespace Go.Proofs.Ybulkdduc
open Go.RowKit Go.Sort
attribute [local go_sem ↓] Go.wp_at_zero Go.wp_at_succ

set_option linter.unusedVariables false

/-- Parts of a program text. -/
def sL : Code → Code
  | .seq a _ => a
  | c => c
def sR : Code → Code
  | .seq _ b => b
  | c => c
def cT : Code → Code
  | .cond _ a _ => a
  | c => c

set_option maxRecDepth 100000 in
set_option maxHeartbeats 2000000 in
theorem probe_code (a0 a1 a2 : Int) (a3 : Bool) (a4 a5 a6 a7 a8 a9 a10 : Int) (w1 wc : World) (M mb k si b30 b31 b32 b33 b34 b37 p : Nat) (hbt tmo nb sb nc sc nh sh np sp na sa n s : Int) (TH TP TA PR : Int) (gd : Bool) (hgd : (gd = false ∧ PR = 0) ∨ (gd = true ∧ PR = probeAt TH TP TA tmo hbt))
    (hT1 : Times w1 M b30 b31 b32 b33 b34 nb sb nc sc nh sh np sp na sa) (hB13 : Below w1.heap.size w1 wc) (y38 : Box wc w1.heap.size n s) (y39 : Box wc (w1.heap.size + 1) nb sb) (y41 : Box wc (w1.heap.size + 1 + 1 + 1) 0 0)
    (tH : Tm nh sh TH) (tP : Tm np sp TP) (tA : Tm na sa TA) (bH0 : -100000000000 ≤ TH) (bH1 : TH ≤ 100000000000) (bP0 : -100000000000 ≤ TP) (bP1 : TP ≤ 100000000000) (bt0 : 0 ≤ tmo) (bt1 : tmo ≤ 100000000000) (bh0 : 0 ≤ hbt) (bh1 : hbt ≤ 100000000000)
    (KK : Act → World → Prop) (K2 : Act → World → Prop) (w : World) (u11 u12 u13 u14 u15 u16 u17 u18 u19 u20 u21 u22 u25 u27 u42 u43 u44 u45 u46 u47 u48 u49 u50 u51 u52 u53 u54 u55 u56 u57 u58 u59 u60 u61 u62 u63 u64 u65 u66 u67 u68 u69 u70 u71 u72 u73 u74 u75 u76 u77 u78 u79 u80 u81 u82 u83 u84 u85 u86 u87 u88 u89 u90 u91 u92 u93 u94 u95 u96 u97 u98 u99 u100 u101 u102 u103 u104 u105 u106 u107 u108 u109 u110 u111 u112 u113 u114 u115 u116 u117 u118 u119 u120 u121 u122 u123 u124 u125 u126 u127 u128 u129 u130 u131 u132 u133 u134 u135 u136 u137 u138 u139 u140 u141 u142 u143 u144 u145 u146 u147 u148 u149 u150 u151 u152 u153 u154 u155 u156 u157 u158 u159 u160 u161 u162 u163 u164 u165 u166 u167 u168 u169 u170 u171 u172 u173 u174 u175 u176 u177 u178 u179 u180 u181 u182 u183 u184 u185 u186 u187 u188 u189 u190 u191 u192 u193 u194 u195 u196 u198 u199 u200 u201 u202 u203 u204 u205 u206 u207 u208 u209 u210 u211 u212 u213 u214 u215 u216 u217 u218 u219 u220 u221 u222 u223 u224 u225 u226 u227 u228 u229 u230 u231 u232 u233 u234 u235 u236 u237 u238 u239 u240 u241 u242 u243 u244 u245 u246 u247 u248 u249 u250 u251 u252 u253 u254 u255 u256 u257 u258 u259 u260 u261 u262 : Value)
    (hKK : Hid (∀ (wd : World) (v42 v44 v45 v46 v47 v48 v49 v50 v53 v54 v55 v56 v57 v58 v59 v60 v61 v62 v63 v64 v65 v66 v67 v68 v69 v70 v71 v72 v73 v74 v75 v76 v77 v78 v79 v80 v81 v82 v83 v84 v85 v86 v87 v88 v89 v90 v91 v92 v93 v94 v95 v96 v97 v98 v99 v100 v101 v102 v103 v104 v105 v106 v107 v108 v109 v110 v111 v112 v113 v114 v115 v116 v117 v118 v119 v120 v121 v122 v123 v124 v125 v126 v127 v128 v129 v130 v131 v132 v133 v134 v135 v136 v137 v138 v141 v142 v143 v144 v145 v146 v147 v149 v150 v151 v152 v153 v154 v155 v156 v157 v158 v159 v160 v161 v162 v163 v164 v165 v166 v167 v168 v169 v170 v171 v172 v173 v174 v175 v176 v177 v178 v179 v180 v181 v182 v183 v184 v185 v186 v187 v188 v189 v190 v191 v192 v193 v194 v195 v196 v197 v198 v199 v200 v201 v202 v203 v204 v205 v206 v207 v208 v209 v210 v211 v212 v213 v214 v215 v216 v217 v218 v219 v220 v221 v222 v223 v224 v225 v226 v227 v228 v229 v230 v231 v232 v233 v234 v235 v236 v237 v238 v239 v240 v241 v242 v243 v244 v245 v246 v247 v248 v249 v250 v251 v252 v253 v254 v255 v256 v257 v258 v259 v260 v261 v262 : Value), (Below w1.heap.size w1 wd ∧ Box wd w1.heap.size n s ∧ Box wd (w1.heap.size + 1) nb sb ∧ ∃ m r : Int, Box wd (w1.heap.size + 1 + 1 + 1) m r ∧ Tm m r PR) → KK ⟨((.int .u8 a0) :: (.int .u8 a1) :: (.int .u8 a2) :: (.bool a3) :: (.int .i16 a4) :: (.int .i16 a5) :: (.int .i16 a6) :: (.int .i16 a7) :: (.int .i16 a8) :: (.int .u16 a9) :: (.int .u16 a10) :: u11 :: u12 :: u13 :: u14 :: u15 :: u16 :: u17 :: u18 :: u19 :: u20 :: u21 :: u22 :: (.int .i64 k) :: (.slice (some ⟨mb, 0, none⟩) k k) :: u25 :: (.int .i64 si) :: u27 :: (.int .i64 tmo) :: (.int .i64 hbt) :: (.pointer (some ⟨b30, 0, none⟩)) :: (.pointer (some ⟨b31, 0, none⟩)) :: (.pointer (some ⟨b32, 0, none⟩)) :: (.pointer (some ⟨b33, 0, none⟩)) :: (.pointer (some ⟨b34, 0, none⟩)) :: (.pointer (some ⟨M, 0, none⟩)) :: (.int .i64 p) :: (.pointer (some ⟨b37, 0, none⟩)) :: (.pointer (some ⟨w1.heap.size, 0, none⟩)) :: (.pointer (some ⟨w1.heap.size + 1, 0, none⟩)) :: (.pointer (some ⟨w1.heap.size + 1 + 1, 0, none⟩)) :: (.pointer (some ⟨w1.heap.size + 1 + 1 + 1, 0, none⟩)) :: v42 :: u43 :: v44 :: v45 :: v46 :: v47 :: v48 :: v49 :: v50 :: u51 :: u52 :: v53 :: v54 :: v55 :: v56 :: v57 :: v58 :: v59 :: v60 :: v61 :: v62 :: v63 :: v64 :: v65 :: v66 :: v67 :: v68 :: v69 :: v70 :: v71 :: v72 :: v73 :: v74 :: v75 :: v76 :: v77 :: v78 :: v79 :: v80 :: v81 :: v82 :: v83 :: v84 :: v85 :: v86 :: v87 :: v88 :: v89 :: v90 :: v91 :: v92 :: v93 :: v94 :: v95 :: v96 :: v97 :: v98 :: v99 :: v100 :: v101 :: v102 :: v103 :: v104 :: v105 :: v106 :: v107 :: v108 :: v109 :: v110 :: v111 :: v112 :: v113 :: v114 :: v115 :: v116 :: v117 :: v118 :: v119 :: v120 :: v121 :: v122 :: v123 :: v124 :: v125 :: v126 :: v127 :: v128 :: v129 :: v130 :: v131 :: v132 :: v133 :: v134 :: v135 :: v136 :: v137 :: v138 :: u139 :: u140 :: v141 :: v142 :: v143 :: v144 :: v145 :: v146 :: v147 :: u148 :: v149 :: v150 :: v151 :: v152 :: v153 :: v154 :: v155 :: v156 :: v157 :: v158 :: v159 :: v160 :: v161 :: v162 :: v163 :: v164 :: v165 :: v166 :: v167 :: v168 :: v169 :: v170 :: v171 :: v172 :: v173 :: v174 :: v175 :: v176 :: v177 :: v178 :: v179 :: v180 :: v181 :: v182 :: v183 :: v184 :: v185 :: v186 :: v187 :: v188 :: v189 :: v190 :: v191 :: v192 :: v193 :: v194 :: v195 :: v196 :: v197 :: v198 :: v199 :: v200 :: v201 :: v202 :: v203 :: v204 :: v205 :: v206 :: v207 :: v208 :: v209 :: v210 :: v211 :: v212 :: v213 :: v214 :: v215 :: v216 :: v217 :: v218 :: v219 :: v220 :: v221 :: v222 :: v223 :: v224 :: v225 :: v226 :: v227 :: v228 :: v229 :: v230 :: v231 :: v232 :: v233 :: v234 :: v235 :: v236 :: v237 :: v238 :: v239 :: v240 :: v241 :: v242 :: v243 :: v244 :: v245 :: v246 :: v247 :: v248 :: v249 :: v250 :: v251 :: v252 :: v253 :: v254 :: v255 :: v256 :: v257 :: v258 :: v259 :: v260 :: v261 :: v262 :: []).toArray, []⟩ wd)) :
    Code.wp Yba.prog (sR (sL (sR (cT (sR (sR (cT (sR (sL (dropSeq 29 (Yba.f3.body.getD .skip))))))))))) (Exit.then KK (Exit.then K2 (bodyPost Yba.prog Yba.f3 (Post w)))) ⟨((.int .u8 a0) :: (.int .u8 a1) :: (.int .u8 a2) :: (.bool a3) :: (.int .i16 a4) :: (.int .i16 a5) :: (.int .i16 a6) :: (.int .i16 a7) :: (.int .i16 a8) :: (.int .u16 a9) :: (.int .u16 a10) :: u11 :: u12 :: u13 :: u14 :: u15 :: u16 :: u17 :: u18 :: u19 :: u20 :: u21 :: u22 :: (.int .i64 k) :: (.slice (some ⟨mb, 0, none⟩) k k) :: u25 :: (.int .i64 si) :: u27 :: (.int .i64 tmo) :: (.int .i64 hbt) :: (.pointer (some ⟨b30, 0, none⟩)) :: (.pointer (some ⟨b31, 0, none⟩)) :: (.pointer (some ⟨b32, 0, none⟩)) :: (.pointer (some ⟨b33, 0, none⟩)) :: (.pointer (some ⟨b34, 0, none⟩)) :: (.pointer (some ⟨M, 0, none⟩)) :: (.int .i64 p) :: (.pointer (some ⟨b37, 0, none⟩)) :: (.pointer (some ⟨w1.heap.size, 0, none⟩)) :: (.pointer (some ⟨w1.heap.size + 1, 0, none⟩)) :: (.pointer (some ⟨w1.heap.size + 1 + 1, 0, none⟩)) :: (.pointer (some ⟨w1.heap.size + 1 + 1 + 1, 0, none⟩)) :: u42 :: u43 :: u44 :: u45 :: u46 :: u47 :: u48 :: u49 :: u50 :: u51 :: u52 :: u53 :: u54 :: u55 :: u56 :: u57 :: u58 :: u59 :: u60 :: u61 :: u62 :: u63 :: u64 :: u65 :: u66 :: u67 :: u68 :: u69 :: u70 :: u71 :: u72 :: u73 :: u74 :: u75 :: u76 :: u77 :: u78 :: u79 :: u80 :: u81 :: u82 :: u83 :: u84 :: u85 :: u86 :: u87 :: u88 :: u89 :: u90 :: u91 :: u92 :: u93 :: u94 :: u95 :: u96 :: u97 :: u98 :: u99 :: u100 :: u101 :: u102 :: u103 :: u104 :: u105 :: u106 :: u107 :: u108 :: u109 :: u110 :: u111 :: u112 :: u113 :: u114 :: u115 :: u116 :: u117 :: u118 :: u119 :: u120 :: u121 :: u122 :: u123 :: u124 :: u125 :: u126 :: u127 :: u128 :: u129 :: u130 :: u131 :: u132 :: u133 :: u134 :: u135 :: u136 :: u137 :: u138 :: u139 :: u140 :: u141 :: u142 :: u143 :: u144 :: u145 :: u146 :: u147 :: u148 :: u149 :: u150 :: u151 :: u152 :: u153 :: u154 :: u155 :: u156 :: u157 :: u158 :: u159 :: u160 :: u161 :: u162 :: u163 :: u164 :: u165 :: u166 :: u167 :: u168 :: u169 :: u170 :: u171 :: u172 :: u173 :: u174 :: u175 :: u176 :: u177 :: u178 :: u179 :: u180 :: u181 :: u182 :: u183 :: u184 :: u185 :: u186 :: u187 :: u188 :: u189 :: u190 :: u191 :: u192 :: u193 :: u194 :: u195 :: u196 :: (.bool gd) :: u198 :: u199 :: u200 :: u201 :: u202 :: u203 :: u204 :: u205 :: u206 :: u207 :: u208 :: u209 :: u210 :: u211 :: u212 :: u213 :: u214 :: u215 :: u216 :: u217 :: u218 :: u219 :: u220 :: u221 :: u222 :: u223 :: u224 :: u225 :: u226 :: u227 :: u228 :: u229 :: u230 :: u231 :: u232 :: u233 :: u234 :: u235 :: u236 :: u237 :: u238 :: u239 :: u240 :: u241 :: u242 :: u243 :: u244 :: u245 :: u246 :: u247 :: u248 :: u249 :: u250 :: u251 :: u252 :: u253 :: u254 :: u255 :: u256 :: u257 :: u258 :: u259 :: u260 :: u261 :: u262 :: []).toArray, []⟩ wc := by
  conv => arg 2; whnf
  rcases hgd with ⟨rfl, rfl⟩ | ⟨rfl, rfl⟩
  · go_wp2_with fail
    exact hKK.out _ _ _ _ _ _ _ _ _ _ _ _ _ _ _ _ _ _ _ _ _ _ _ _ _ _ _ _ _ _ _ _ _ _ _ _ _ _ _ _ _ _ _ _ _ _ _ _ _ _ _ _ _ _ _ _ _ _ _ _ _ _ _ _ _ _ _ _ _ _ _ _ _ _ _ _ _ _ _ _ _ _ _ _ _ _ _ _ _ _ _ _ _ _ _ _ _ _ _ _ _ _ _ _ _ _ _ _ _ _ _ _ _ _ _ _ _ _ _ _ _ _ _ _ _ _ _ _ _ _ _ _ _ _ _ _ _ _ _ _ _ _ _ _ _ _ _ _ _ _ _ _ _ _ _ _ _ _ _ _ _ _ _ _ _ _ _ _ _ _ _ _ _ _ _ _ _ _ _ _ _ _ _ _ _ _ _ _ _ _ _ _ _ _ _ _ _ _ _ _ _ _ _ _ _ _ _ _ _ _ _ _ _ _ _ _ ⟨hB13, y38, y39, _, _, y41, tm_zero⟩
  · have v1 : IntKind.i64.wrap (tmo - 499999998) = tmo - 499999998 := by rw [IntKind.wrap_i64]; omega
    have v2 : IntKind.i64.wrap (2 * hbt) = 2 * hbt := by rw [IntKind.wrap_i64]; omega
    obtain ⟨first, hfirst⟩ : ∃ f, f = TH + (if tmo - 499999998 < 2 * hbt then 2 * hbt else tmo - 499999998) := ⟨_, rfl⟩
    have bf0 : -300000000000 ≤ first := by rw [hfirst]; split <;> omega
    have bf1 : first ≤ 300000000000 := by rw [hfirst]; split <;> omega
    have HF : Hid (first = TH + (if tmo - 499999998 < 2 * hbt then 2 * hbt else tmo - 499999998)) := hfirst
    clear hfirst
    have hT3 := hT1.on hB13
    go_upto_region 46 with (fail)
    go_cut [42] (fun v w4 => ∃ (b : Nat) (n' s' : Int), v = .pointer (some ⟨b, 0, none⟩) ∧ Box w4 b n' s' ∧ Tm n' s' first ∧ Below w1.heap.size w1 w4 ∧ Box w4 w1.heap.size n s ∧ Box w4 (w1.heap.size + 1) nb sb ∧ Box w4 (w1.heap.size + 1 + 1 + 1) 0 0 ∧ w1.heap.size + 1 + 1 + 1 < b)
    case first =>
      have u3 := hT3.x3.c0
      have u4 := hT3.x3.c1
      have u5 := hT3.x3.c2
      by_cases hmx : tmo - 499999998 < 2 * hbt
      · have hT : Hid (first = TH + (2 * hbt)) := by have := HF.out; rw [if_pos hmx] at this; exact this
        go_wp2_with fail
        refine (add_tm nh sh (2 * hbt) TH _ tH (by omega) (by omega) (by omega) (by omega)).mono ?_
        rintro e w4 ⟨n4, s4, rfl, t4, hq4⟩
        go_wp2_with fail
        go_meet
        case rel =>
          have := hT.out
          have hqq := bal hq4 (.cells #[.int .u64 n4, .int .i64 s4, .pointer none] 40)
          exact ⟨_, _, _, rfl, box_new w4 n4 s4, by rw [this]; exact t4, bon hB13 hqq, y38.on hqq, y39.on hqq, y41.on hqq, Nat.lt_of_lt_of_le y41.lt hq4.size⟩
      · have hT : Hid (first = TH + (tmo - 499999998)) := by have := HF.out; rw [if_neg hmx] at this; exact this
        go_wp2_with fail
        refine (add_tm nh sh (tmo - 499999998) TH _ tH (by omega) (by omega) (by omega) (by omega)).mono ?_
        rintro e w4 ⟨n4, s4, rfl, t4, hq4⟩
        go_wp2_with fail
        go_meet
        case rel =>
          have := hT.out
          have hqq := bal hq4 (.cells #[.int .u64 n4, .int .i64 s4, .pointer none] 40)
          exact ⟨_, _, _, rfl, box_new w4 n4 s4, by rw [this]; exact t4, bon hB13 hqq, y38.on hqq, y39.on hqq, y41.on hqq, Nat.lt_of_lt_of_le y41.lt hq4.size⟩

    case rest =>
      obtain ⟨b7, n7, s7, rfl, hF7, t7, hB14, y38', y39', y41', hl7⟩ := hcut
      rename_i hK
      refine hK _ _ ?_
      have hT4 := hT1.on hB14
      have e0 := hT4.x4.c0
      have e1 := hT4.x4.c1
      have e2 := hT4.x4.c2
      have e3 := hF7.c0
      have e4 := hF7.c1
      have e5 := hF7.c2
      have q1 := tP.lo; have q2 := tP.hi; have q3 := t7.lo; have q4 := t7.hi; have q5 := tA.lo; have q6 := tA.hi
      clear hT3 y38 y39 y41
      obtain ⟨at0, hat0⟩ : ∃ f, f = (if TP < first then first else TP + 166666666) := ⟨_, rfl⟩
      have HA : Hid (at0 = (if TP < first then first else TP + 166666666)) := hat0
      clear hat0
      go_wp2_with fail
      refine (before_b np sp n7 s7 _ q1 q2 q3 q4).mono ?_
      rintro e w5 ⟨rfl, hq5⟩
      go_upto_if 207 with (fail)
      clear e0 e1 e2 e3 e4 e5
      go_cut [] (fun wd => Below w1.heap.size w1 wd ∧ Box wd w1.heap.size n s ∧ Box wd (w1.heap.size + 1) nb sb ∧ ∃ m r : Int, Box wd (w1.heap.size + 1 + 1 + 1) m r ∧ Tm m r at0)
      case first =>
        by_cases hlt : TP < first
        · have z1 : bfB np sp n7 s7 = true := by rw [bfB_tm tP t7]; simpa using hlt
          rw [z1]
          have hat := HA.out
          rw [if_pos hlt] at hat
          subst hat
          have hBB := bon hB14 hq5
          have x38 := y38'.on hq5
          have x39 := y39'.on hq5
          have x41 := y41'.on hq5
          obtain ⟨f0, f1, f2, ff, fl⟩ := hF7.on hq5
          obtain ⟨g0, g1, g2, gf, gl⟩ := id x41
          go_wp2_with fail
          go_meet
          case rel =>
            have ho : Only (w1.heap.size + 1 + 1 + 1) w5 (((w5.setCell ⟨w1.heap.size + 1 + 1 + 1, 0, none⟩ (.int .u64 n7)).setCell ⟨w1.heap.size + 1 + 1 + 1, 1, none⟩ (.int .i64 s7)).setCell ⟨w1.heap.size + 1 + 1 + 1, 2, none⟩ (.pointer none)) := (((Only.refl _ _).set _).set _).set _
            exact ⟨below_set3 hBB (by omega) _ _ _, x38.only ho (by omega), x39.only ho (by omega), _, _, x41.set _ _, t7⟩
        · have z1 : bfB np sp n7 s7 = false := by rw [bfB_tm tP t7]; simpa using hlt
          rw [z1]
          have hat := HA.out
          rw [if_neg hlt] at hat
          subst hat
          have hT5 := hT4.on hq5
          have e0 := hT5.x4.c0
          have e1 := hT5.x4.c1
          have e2 := hT5.x4.c2
          go_wp2_with fail
          refine (add_tm np sp 166666666 TP _ tP (by omega) (by omega) (by omega) (by omega)).mono ?_
          rintro e w6 ⟨n4, s4, rfl, t4, hq6⟩
          have hqq := bon hq5 hq6
          have hBB := bon hB14 hqq
          have x38 := y38'.on hqq
          have x39 := y39'.on hqq
          have x41 := y41'.on hqq
          obtain ⟨g0, g1, g2, gf, gl⟩ := id x41
          clear e0 e1 e2
          go_wp2_with fail
          go_meet
          case rel =>
            have ho : Only (w1.heap.size + 1 + 1 + 1) w6 (((w6.setCell ⟨w1.heap.size + 1 + 1 + 1, 0, none⟩ (.int .u64 n4)).setCell ⟨w1.heap.size + 1 + 1 + 1, 1, none⟩ (.int .i64 s4)).setCell ⟨w1.heap.size + 1 + 1 + 1, 2, none⟩ (.pointer none)) := (((Only.refl _ _).set _).set _).set _
            exact ⟨below_set3 hBB (by omega) _ _ _, x38.only ho (by omega), x39.only ho (by omega), _, _, x41.set _ _, t4⟩
      case rest =>
        obtain ⟨hB15, y38'', y39'', m7, r7, y41'', t41⟩ := hcut
        rename_i hK7
        refine hK7 _ _ ?_
        have hT5 := hT1.on hB15
        have e0 := hT5.x5.c0
        have e1 := hT5.x5.c1
        have e2 := hT5.x5.c2
        obtain ⟨g0, g1, g2, gf, gl⟩ := id y41''
        clear hT4 y38' y39' y41' hF7 hB14
        go_wp2_with fail
        refine (before_b m7 r7 na sa _ t41.lo t41.hi q5 q6).mono ?_
        rintro e w8 ⟨rfl, hq8⟩
        have hBB := bon hB15 hq8
        have x38 := y38''.on hq8
        have x39 := y39''.on hq8
        have x41 := y41''.on hq8
        clear e0 e1 e2 g0 g1 g2 gf gl
        have hpa : probeAt TH TP TA tmo hbt = if at0 < TA then TA else at0 := by
          unfold probeAt; simp only []; rw [← HF.out, ← HA.out]
        have HP : Hid (probeAt TH TP TA tmo hbt = if at0 < TA then TA else at0) := hpa
        clear hpa
        by_cases hla : at0 < TA
        · have z2 : bfB m7 r7 na sa = true := by rw [bfB_tm t41 tA]; simpa using hla
          rw [z2]
          have hT8 := hT5.on hq8
          have e0 := hT8.x5.c0
          have e1 := hT8.x5.c1
          have e2 := hT8.x5.c2
          obtain ⟨g0, g1, g2, gf, gl⟩ := id x41
          go_wp2_with fail
          refine hKK.out _ _ _ _ _ _ _ _ _ _ _ _ _ _ _ _ _ _ _ _ _ _ _ _ _ _ _ _ _ _ _ _ _ _ _ _ _ _ _ _ _ _ _ _ _ _ _ _ _ _ _ _ _ _ _ _ _ _ _ _ _ _ _ _ _ _ _ _ _ _ _ _ _ _ _ _ _ _ _ _ _ _ _ _ _ _ _ _ _ _ _ _ _ _ _ _ _ _ _ _ _ _ _ _ _ _ _ _ _ _ _ _ _ _ _ _ _ _ _ _ _ _ _ _ _ _ _ _ _ _ _ _ _ _ _ _ _ _ _ _ _ _ _ _ _ _ _ _ _ _ _ _ _ _ _ _ _ _ _ _ _ _ _ _ _ _ _ _ _ _ _ _ _ _ _ _ _ _ _ _ _ _ _ _ _ _ _ _ _ _ _ _ _ _ _ _ _ _ _ _ _ _ _ _ _ _ _ _ _ _ _ _ _ _ _ _ ?_
          ·
            have hpr := HP.out
            rw [if_pos hla] at hpr
            rw [hpr]
            have ho : Only (w1.heap.size + 1 + 1 + 1) w8 (((w8.setCell ⟨w1.heap.size + 1 + 1 + 1, 0, none⟩ (.int .u64 na)).setCell ⟨w1.heap.size + 1 + 1 + 1, 1, none⟩ (.int .i64 sa)).setCell ⟨w1.heap.size + 1 + 1 + 1, 2, none⟩ (.pointer none)) := (((Only.refl _ _).set _).set _).set _
            exact ⟨below_set3 hBB (by omega) _ _ _, x38.only ho (by omega), x39.only ho (by omega), _, _, x41.set _ _, tA⟩
        · have z2 : bfB m7 r7 na sa = false := by rw [bfB_tm t41 tA]; simpa using hla
          have hlb : TA ≤ at0 := by omega
          rw [z2]
          go_wp2_with fail
          refine hKK.out _ _ _ _ _ _ _ _ _ _ _ _ _ _ _ _ _ _ _ _ _ _ _ _ _ _ _ _ _ _ _ _ _ _ _ _ _ _ _ _ _ _ _ _ _ _ _ _ _ _ _ _ _ _ _ _ _ _ _ _ _ _ _ _ _ _ _ _ _ _ _ _ _ _ _ _ _ _ _ _ _ _ _ _ _ _ _ _ _ _ _ _ _ _ _ _ _ _ _ _ _ _ _ _ _ _ _ _ _ _ _ _ _ _ _ _ _ _ _ _ _ _ _ _ _ _ _ _ _ _ _ _ _ _ _ _ _ _ _ _ _ _ _ _ _ _ _ _ _ _ _ _ _ _ _ _ _ _ _ _ _ _ _ _ _ _ _ _ _ _ _ _ _ _ _ _ _ _ _ _ _ _ _ _ _ _ _ _ _ _ _ _ _ _ _ _ _ _ _ _ _ _ _ _ _ _ _ _ _ _ _ _ _ _ _ _ ?_
          ·
            have hpr := HP.out
            rw [if_neg (Int.not_lt.mpr hlb)] at hpr
            rw [hpr]
            exact ⟨hBB, x38, x39, _, _, x41, t41⟩
end Go.Proofs.Ybulkdduc

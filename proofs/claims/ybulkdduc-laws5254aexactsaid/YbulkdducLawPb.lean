import Derived.Test.YbulkdducLawPa
namespace Go.Proofs.Ybulkdduc
open Go.RowKit Go.Sort
attribute [local go_sem ↓] Go.wp_at_zero Go.wp_at_succ

set_option linter.unusedVariables false

set_option maxRecDepth 100000 in
set_option maxHeartbeats 2000000 in
theorem quiet52 (a0 a1 a2 : Int) (a3 : Bool) (a4 a5 a6 a7 a8 a9 a10 : Int) (w1 wc : World) (M mb k si b30 b31 b32 b33 b34 b37 p : Nat) (hbt tmo nb sb nc sc nh sh np sp na sa n s m0 r0 : Int) (TB TH PR : Int)
    (hT1 : Times w1 M b30 b31 b32 b33 b34 nb sb nc sc nh sh np sp na sa) (hB14 : Below w1.heap.size w1 wc) (y38' : Box wc w1.heap.size n s) (y39' : Box wc (w1.heap.size + 1) nb sb) (y41' : Box wc (w1.heap.size + 1 + 1 + 1) m0 r0) (t0 : Tm m0 r0 PR)
    (tB : Tm nb sb TB) (tH : Tm nh sh TH) (bH0 : -100000000000 ≤ TH) (bH1 : TH ≤ 100000000000) (bt0 : 0 ≤ tmo) (bt1 : tmo ≤ 100000000000)
    (KK : Act → World → Prop) (w : World) (u11 u12 u13 u14 u15 u16 u17 u18 u19 u20 u21 u22 u25 u27 u42 u43 u44 u45 u46 u47 u48 u49 u50 u51 u52 u53 u54 u55 u56 u57 u58 u59 u60 u61 u62 u63 u64 u65 u66 u67 u68 u69 u70 u71 u72 u73 u74 u75 u76 u77 u78 u79 u80 u81 u82 u83 u84 u85 u86 u87 u88 u89 u90 u91 u92 u93 u94 u95 u96 u97 u98 u99 u100 u101 u102 u103 u104 u105 u106 u107 u108 u109 u110 u111 u112 u113 u114 u115 u116 u117 u118 u119 u120 u121 u122 u123 u124 u125 u126 u127 u128 u129 u130 u131 u132 u133 u134 u135 u136 u137 u138 u139 u140 u141 u142 u143 u144 u145 u146 u147 u148 u149 u150 u151 u152 u153 u154 u155 u156 u157 u158 u159 u160 u161 u162 u163 u164 u165 u166 u167 u168 u169 u170 u171 u172 u173 u174 u175 u176 u177 u178 u179 u180 u181 u182 u183 u184 u185 u186 u187 u188 u189 u190 u191 u192 u193 u194 u195 u196 u197 u198 u199 u200 u201 u202 u203 u204 u205 u206 u207 u208 u209 u210 u211 u212 u213 u214 u215 u216 u217 u218 u219 u220 u221 u222 u223 u224 u225 u226 u227 u228 u229 u230 u231 u232 u233 u234 u235 u236 u237 u238 u239 u240 u241 u242 u243 u244 u245 u246 u247 u248 u249 u250 u251 u252 u253 u254 u255 u256 u257 u258 u259 u260 u261 u262 : Value)
    (hKK : Hid (∀ (wd : World) (v215 v216 v217 v218 v219 v220 v221 : Value), (Below w1.heap.size w1 wd ∧ Box wd w1.heap.size n s ∧ Box wd (w1.heap.size + 1) (nsOf (early TB (early (TH + tmo) PR))) (secOf (early TB (early (TH + tmo) PR)))) → KK ⟨((.int .u8 a0) :: (.int .u8 a1) :: (.int .u8 a2) :: (.bool a3) :: (.int .i16 a4) :: (.int .i16 a5) :: (.int .i16 a6) :: (.int .i16 a7) :: (.int .i16 a8) :: (.int .u16 a9) :: (.int .u16 a10) :: u11 :: u12 :: u13 :: u14 :: u15 :: u16 :: u17 :: u18 :: u19 :: u20 :: u21 :: u22 :: (.int .i64 k) :: (.slice (some ⟨mb, 0, none⟩) k k) :: u25 :: (.int .i64 si) :: u27 :: (.int .i64 tmo) :: (.int .i64 hbt) :: (.pointer (some ⟨b30, 0, none⟩)) :: (.pointer (some ⟨b31, 0, none⟩)) :: (.pointer (some ⟨b32, 0, none⟩)) :: (.pointer (some ⟨b33, 0, none⟩)) :: (.pointer (some ⟨b34, 0, none⟩)) :: (.pointer (some ⟨M, 0, none⟩)) :: (.int .i64 p) :: (.pointer (some ⟨b37, 0, none⟩)) :: (.pointer (some ⟨w1.heap.size, 0, none⟩)) :: (.pointer (some ⟨w1.heap.size + 1, 0, none⟩)) :: (.pointer (some ⟨w1.heap.size + 1 + 1, 0, none⟩)) :: (.pointer (some ⟨w1.heap.size + 1 + 1 + 1, 0, none⟩)) :: u42 :: u43 :: u44 :: u45 :: u46 :: u47 :: u48 :: u49 :: u50 :: u51 :: u52 :: u53 :: u54 :: u55 :: u56 :: u57 :: u58 :: u59 :: u60 :: u61 :: u62 :: u63 :: u64 :: u65 :: u66 :: u67 :: u68 :: u69 :: u70 :: u71 :: u72 :: u73 :: u74 :: u75 :: u76 :: u77 :: u78 :: u79 :: u80 :: u81 :: u82 :: u83 :: u84 :: u85 :: u86 :: u87 :: u88 :: u89 :: u90 :: u91 :: u92 :: u93 :: u94 :: u95 :: u96 :: u97 :: u98 :: u99 :: u100 :: u101 :: u102 :: u103 :: u104 :: u105 :: u106 :: u107 :: u108 :: u109 :: u110 :: u111 :: u112 :: u113 :: u114 :: u115 :: u116 :: u117 :: u118 :: u119 :: u120 :: u121 :: u122 :: u123 :: u124 :: u125 :: u126 :: u127 :: u128 :: u129 :: u130 :: u131 :: u132 :: u133 :: u134 :: u135 :: u136 :: u137 :: u138 :: u139 :: u140 :: u141 :: u142 :: u143 :: u144 :: u145 :: u146 :: u147 :: u148 :: u149 :: u150 :: u151 :: u152 :: u153 :: u154 :: u155 :: u156 :: u157 :: u158 :: u159 :: u160 :: u161 :: u162 :: u163 :: u164 :: u165 :: u166 :: u167 :: u168 :: u169 :: u170 :: u171 :: u172 :: u173 :: u174 :: u175 :: u176 :: u177 :: u178 :: u179 :: u180 :: u181 :: u182 :: u183 :: u184 :: u185 :: u186 :: u187 :: u188 :: u189 :: u190 :: u191 :: u192 :: u193 :: u194 :: u195 :: u196 :: u197 :: u198 :: u199 :: u200 :: u201 :: u202 :: u203 :: u204 :: u205 :: u206 :: u207 :: u208 :: u209 :: u210 :: u211 :: u212 :: u213 :: u214 :: v215 :: v216 :: v217 :: v218 :: v219 :: v220 :: v221 :: u222 :: u223 :: u224 :: u225 :: u226 :: u227 :: u228 :: u229 :: u230 :: u231 :: u232 :: u233 :: u234 :: u235 :: u236 :: u237 :: u238 :: u239 :: u240 :: u241 :: u242 :: u243 :: u244 :: u245 :: u246 :: u247 :: u248 :: u249 :: u250 :: u251 :: u252 :: u253 :: u254 :: u255 :: u256 :: u257 :: u258 :: u259 :: u260 :: u261 :: u262 :: []).toArray, []⟩ wd)) :
    Code.wp Yba.prog (sR (sR (cT (sR (sR (cT (sR (sL (dropSeq 29 (Yba.f3.body.getD .skip)))))))))) (Exit.then KK (bodyPost Yba.prog Yba.f3 (Post w))) ⟨((.int .u8 a0) :: (.int .u8 a1) :: (.int .u8 a2) :: (.bool a3) :: (.int .i16 a4) :: (.int .i16 a5) :: (.int .i16 a6) :: (.int .i16 a7) :: (.int .i16 a8) :: (.int .u16 a9) :: (.int .u16 a10) :: u11 :: u12 :: u13 :: u14 :: u15 :: u16 :: u17 :: u18 :: u19 :: u20 :: u21 :: u22 :: (.int .i64 k) :: (.slice (some ⟨mb, 0, none⟩) k k) :: u25 :: (.int .i64 si) :: u27 :: (.int .i64 tmo) :: (.int .i64 hbt) :: (.pointer (some ⟨b30, 0, none⟩)) :: (.pointer (some ⟨b31, 0, none⟩)) :: (.pointer (some ⟨b32, 0, none⟩)) :: (.pointer (some ⟨b33, 0, none⟩)) :: (.pointer (some ⟨b34, 0, none⟩)) :: (.pointer (some ⟨M, 0, none⟩)) :: (.int .i64 p) :: (.pointer (some ⟨b37, 0, none⟩)) :: (.pointer (some ⟨w1.heap.size, 0, none⟩)) :: (.pointer (some ⟨w1.heap.size + 1, 0, none⟩)) :: (.pointer (some ⟨w1.heap.size + 1 + 1, 0, none⟩)) :: (.pointer (some ⟨w1.heap.size + 1 + 1 + 1, 0, none⟩)) :: u42 :: u43 :: u44 :: u45 :: u46 :: u47 :: u48 :: u49 :: u50 :: u51 :: u52 :: u53 :: u54 :: u55 :: u56 :: u57 :: u58 :: u59 :: u60 :: u61 :: u62 :: u63 :: u64 :: u65 :: u66 :: u67 :: u68 :: u69 :: u70 :: u71 :: u72 :: u73 :: u74 :: u75 :: u76 :: u77 :: u78 :: u79 :: u80 :: u81 :: u82 :: u83 :: u84 :: u85 :: u86 :: u87 :: u88 :: u89 :: u90 :: u91 :: u92 :: u93 :: u94 :: u95 :: u96 :: u97 :: u98 :: u99 :: u100 :: u101 :: u102 :: u103 :: u104 :: u105 :: u106 :: u107 :: u108 :: u109 :: u110 :: u111 :: u112 :: u113 :: u114 :: u115 :: u116 :: u117 :: u118 :: u119 :: u120 :: u121 :: u122 :: u123 :: u124 :: u125 :: u126 :: u127 :: u128 :: u129 :: u130 :: u131 :: u132 :: u133 :: u134 :: u135 :: u136 :: u137 :: u138 :: u139 :: u140 :: u141 :: u142 :: u143 :: u144 :: u145 :: u146 :: u147 :: u148 :: u149 :: u150 :: u151 :: u152 :: u153 :: u154 :: u155 :: u156 :: u157 :: u158 :: u159 :: u160 :: u161 :: u162 :: u163 :: u164 :: u165 :: u166 :: u167 :: u168 :: u169 :: u170 :: u171 :: u172 :: u173 :: u174 :: u175 :: u176 :: u177 :: u178 :: u179 :: u180 :: u181 :: u182 :: u183 :: u184 :: u185 :: u186 :: u187 :: u188 :: u189 :: u190 :: u191 :: u192 :: u193 :: u194 :: u195 :: u196 :: u197 :: u198 :: u199 :: u200 :: u201 :: u202 :: u203 :: u204 :: u205 :: u206 :: u207 :: u208 :: u209 :: u210 :: u211 :: u212 :: u213 :: u214 :: u215 :: u216 :: u217 :: u218 :: u219 :: u220 :: u221 :: u222 :: u223 :: u224 :: u225 :: u226 :: u227 :: u228 :: u229 :: u230 :: u231 :: u232 :: u233 :: u234 :: u235 :: u236 :: u237 :: u238 :: u239 :: u240 :: u241 :: u242 :: u243 :: u244 :: u245 :: u246 :: u247 :: u248 :: u249 :: u250 :: u251 :: u252 :: u253 :: u254 :: u255 :: u256 :: u257 :: u258 :: u259 :: u260 :: u261 :: u262 :: []).toArray, []⟩ wc := by
  conv => arg 2; whnf
  obtain ⟨v1, v2⟩ := t0.val
  subst v1 v2
  obtain ⟨W3, hW3⟩ : ∃ x, x = wc := ⟨_, rfl⟩
  rw [← hW3] at hB14 y38' y39' y41' ⊢
  clear hW3
  have hT3 := hT1.on hB14
  have k0 := cell_regrown y39'.c0
  have k1 := cell_regrown y39'.c1
  have k2 := cell_regrown y39'.c2
  have k3 := cell_regrown hT3.x3.c0
  have k4 := cell_regrown hT3.x3.c1
  have k5 := cell_regrown hT3.x3.c2
  have k6 := cell_regrown y41'.c0
  have k7 := cell_regrown y41'.c1
  have k8 := cell_regrown y41'.c2
  have cA : ∀ d os, Calls Yba.prog 7 #[.agg #[.int .u64 nh, .int .i64 sh, .pointer none], .int .i64 tmo] (grow (redrawn W3 d) os) fun e w'' => e = .returned (.agg #[.int .u64 (nsOf (TH + tmo)), .int .i64 (secOf (TH + tmo)), .pointer none]) ∧ ∃ p : Regrown, w'' = grow (redrawn W3 p.d) p.os := fun d os => Calls.regrown_of (add_v nh sh tmo TH _ tH (by omega) (by omega) (by omega) (by omega))
  have cE : ∀ d os, Calls Yba.prog 9 #[.agg #[.int .u64 (nsOf (TH + tmo)), .int .i64 (secOf (TH + tmo)), .pointer none], .agg #[.int .u64 (nsOf PR), .int .i64 (secOf PR), .pointer none]] (grow (redrawn W3 d) os) fun e w'' => e = .returned (.agg #[.int .u64 (nsOf (early (TH + tmo) PR)), .int .i64 (secOf (early (TH + tmo) PR)), .pointer none]) ∧ ∃ p : Regrown, w'' = grow (redrawn W3 p.d) p.os := fun d os => Calls.regrown_of (early_v _ _ _ _ (TH + tmo) PR _ (tm_of _) (tm_of _))
  have cF : ∀ d os, Calls Yba.prog 9 #[.agg #[.int .u64 nb, .int .i64 sb, .pointer none], .agg #[.int .u64 (nsOf (early (TH + tmo) PR)), .int .i64 (secOf (early (TH + tmo) PR)), .pointer none]] (grow (redrawn W3 d) os) fun e w'' => e = .returned (.agg #[.int .u64 (nsOf (early TB (early (TH + tmo) PR))), .int .i64 (secOf (early TB (early (TH + tmo) PR))), .pointer none]) ∧ ∃ p : Regrown, w'' = grow (redrawn W3 p.d) p.os := fun d os => Calls.regrown_of (early_v _ _ _ _ TB (early (TH + tmo) PR) _ tB (tm_of _))
  refine QuietTail.region_quiet_tail_below 7 (by kernel_rfl) (by kernel_rfl) ?_
  simp only [List.take_succ_cons, List.take_zero, List.drop_succ_cons, List.drop_zero]
  repeat (quiet_step (first | (go_at_call 7; exact cA _ _) | (go_at_call_of 9 (Value.int IntKind.u64 nb); exact cF _ _) | (go_at_call 9; exact cE _ _)))
  refine wpQuiet_nil ?_
  intro _ hw'
  obtain ⟨⟨dq, osq⟩, hw''⟩ := hw'
  subst hw''
  have hb34 := below_regrown W3 dq osq
  generalize grow (redrawn W3 dq) osq = W4 at *
  have hB4 := bon hB14 hb34
  have x38 := y38'.on hb34
  have x39 := y39'.on hb34
  clear k0 k1 k2 k3 k4 k5 k6 k7 k8 cA cE cF
  obtain ⟨g0, g1, g2, gf, gl⟩ := id x39
  go_wp2_with fail
  refine hKK.out _ _ _ _ _ _ _ _ ?_
  have ho : Only (w1.heap.size + 1) W4 (((W4.setCell ⟨w1.heap.size + 1, 0, none⟩ (.int .u64 (nsOf (early TB (early (TH + tmo) PR))))).setCell ⟨w1.heap.size + 1, 1, none⟩ (.int .i64 (secOf (early TB (early (TH + tmo) PR))))).setCell ⟨w1.heap.size + 1, 2, none⟩ (.pointer none)) := (((Only.refl _ _).set _).set _).set _
  exact ⟨below_set3 hB4 (by omega) _ _ _, x38.only ho (by omega), x39.set _ _⟩

end Go.Proofs.Ybulkdduc

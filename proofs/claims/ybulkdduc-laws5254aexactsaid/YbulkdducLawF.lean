import Derived.Test.YbulkdducLawDefs
namespace Go.Proofs.Ybulkdduc
open Go.RowKit Go.Sort
attribute [local go_sem ↓] Go.wp_at_zero Go.wp_at_succ

set_option maxRecDepth 100000 in
set_option maxHeartbeats 2000000 in
theorem partF (w wc : World) (M mb k b38 b39 : Nat) (n s : Int) (hk8 : k ≤ 8) (hb : Below w.heap.size w wc) (hm : Mems wc mb k) (hv : wc.cell? ⟨M, 11, none⟩ = some (.slice (some ⟨mb, 0, none⟩) k k)) (hMl : M < wc.heap.size) (hG : Box wc b38 n s) (hW : Box wc b39 n s) (h0 : 0 ≤ n) (h1 : n < 1000000000) (u0 u1 u2 u3 u4 u5 u6 u7 u8 u9 u10 u11 u12 u13 u14 u15 u16 u17 u18 u19 u20 u21 u22 u24 u25 u26 u27 u28 u29 u30 u31 u32 u33 u34 u36 u37 u40 u41 u42 u43 u44 u45 u46 u47 u48 u49 u50 u51 u52 u53 u54 u55 u56 u57 u58 u59 u60 u61 u62 u63 u64 u65 u66 u67 u68 u69 u70 u71 u72 u73 u74 u75 u76 u77 u78 u79 u80 u81 u82 u83 u84 u85 u86 u87 u88 u89 u90 u91 u92 u93 u94 u95 u96 u97 u98 u99 u100 u101 u102 u103 u104 u105 u106 u107 u108 u109 u110 u111 u112 u113 u114 u115 u116 u117 u118 u119 u120 u121 u122 u123 u124 u125 u126 u127 u128 u129 u130 u131 u132 u133 u134 u135 u136 u137 u138 u139 u140 u141 u142 u143 u144 u145 u146 u147 u148 u149 u150 u151 u152 u153 u154 u155 u156 u157 u158 u159 u160 u161 u162 u163 u164 u165 u166 u167 u168 u169 u170 u171 u172 u173 u174 u175 u176 u177 u178 u179 u180 u181 u182 u183 u184 u185 u186 u187 u188 u189 u190 u191 u192 u193 u194 u195 u196 u197 u198 u199 u200 u201 u202 u203 u204 u205 u206 u207 u208 u209 u210 u211 u212 u213 u214 u215 u216 u217 u218 u219 u220 u221 u222 u223 u224 u225 u226 u227 u228 u229 u230 u231 u232 u233 u234 u235 u236 u237 u238 u239 u240 u241 u242 u243 u244 u245 u246 u247 u248 u249 u250 u251 u252 u253 u254 u255 u256 u257 u258 u259 u260 u261 u262 : Value) :
    Code.wp Yba.prog (dropSeq 30 (Yba.f3.body.getD .skip)) (bodyPost Yba.prog Yba.f3 (Post w)) ⟨(u0 :: u1 :: u2 :: u3 :: u4 :: u5 :: u6 :: u7 :: u8 :: u9 :: u10 :: u11 :: u12 :: u13 :: u14 :: u15 :: u16 :: u17 :: u18 :: u19 :: u20 :: u21 :: u22 :: (.int .i64 k) :: u24 :: u25 :: u26 :: u27 :: u28 :: u29 :: u30 :: u31 :: u32 :: u33 :: u34 :: (.pointer (some ⟨M, 0, none⟩)) :: u36 :: u37 :: (.pointer (some ⟨b38, 0, none⟩)) :: (.pointer (some ⟨b39, 0, none⟩)) :: u40 :: u41 :: u42 :: u43 :: u44 :: u45 :: u46 :: u47 :: u48 :: u49 :: u50 :: u51 :: u52 :: u53 :: u54 :: u55 :: u56 :: u57 :: u58 :: u59 :: u60 :: u61 :: u62 :: u63 :: u64 :: u65 :: u66 :: u67 :: u68 :: u69 :: u70 :: u71 :: u72 :: u73 :: u74 :: u75 :: u76 :: u77 :: u78 :: u79 :: u80 :: u81 :: u82 :: u83 :: u84 :: u85 :: u86 :: u87 :: u88 :: u89 :: u90 :: u91 :: u92 :: u93 :: u94 :: u95 :: u96 :: u97 :: u98 :: u99 :: u100 :: u101 :: u102 :: u103 :: u104 :: u105 :: u106 :: u107 :: u108 :: u109 :: u110 :: u111 :: u112 :: u113 :: u114 :: u115 :: u116 :: u117 :: u118 :: u119 :: u120 :: u121 :: u122 :: u123 :: u124 :: u125 :: u126 :: u127 :: u128 :: u129 :: u130 :: u131 :: u132 :: u133 :: u134 :: u135 :: u136 :: u137 :: u138 :: u139 :: u140 :: u141 :: u142 :: u143 :: u144 :: u145 :: u146 :: u147 :: u148 :: u149 :: u150 :: u151 :: u152 :: u153 :: u154 :: u155 :: u156 :: u157 :: u158 :: u159 :: u160 :: u161 :: u162 :: u163 :: u164 :: u165 :: u166 :: u167 :: u168 :: u169 :: u170 :: u171 :: u172 :: u173 :: u174 :: u175 :: u176 :: u177 :: u178 :: u179 :: u180 :: u181 :: u182 :: u183 :: u184 :: u185 :: u186 :: u187 :: u188 :: u189 :: u190 :: u191 :: u192 :: u193 :: u194 :: u195 :: u196 :: u197 :: u198 :: u199 :: u200 :: u201 :: u202 :: u203 :: u204 :: u205 :: u206 :: u207 :: u208 :: u209 :: u210 :: u211 :: u212 :: u213 :: u214 :: u215 :: u216 :: u217 :: u218 :: u219 :: u220 :: u221 :: u222 :: u223 :: u224 :: u225 :: u226 :: u227 :: u228 :: u229 :: u230 :: u231 :: u232 :: u233 :: u234 :: u235 :: u236 :: u237 :: u238 :: u239 :: u240 :: u241 :: u242 :: u243 :: u244 :: u245 :: u246 :: u247 :: u248 :: u249 :: u250 :: u251 :: u252 :: u253 :: u254 :: u255 :: u256 :: u257 :: u258 :: u259 :: u260 :: u261 :: u262 :: []).toArray, []⟩ wc := by
  conv => arg 2; whnf
  have k0 := cell_regrown hG.c0
  have k1 := cell_regrown hG.c1
  have k2 := cell_regrown hG.c2
  have k3 := cell_regrown hW.c0
  have k4 := cell_regrown hW.c1
  have k5 := cell_regrown hW.c2
  have cE : ∀ d os, Calls Yba.prog 10 #[.agg #[.int .u64 n, .int .i64 s, .pointer none], .agg #[.int .u64 n, .int .i64 s, .pointer none]] (grow (redrawn wc d) os) fun e w'' => e = .returned (.bool true) ∧ ∃ p : Regrown, w'' = grow (redrawn wc p.d) p.os := fun d os => Calls.regrown_of (equal_self n s _ h0 h1)
  have cZ : ∀ d os, Calls Yba.prog 11 #[.agg #[.int .u64 n, .int .i64 s, .pointer none]] (grow (redrawn wc d) os) fun e w'' => e = .returned (.bool (zB n s)) ∧ ∃ p : Regrown, w'' = grow (redrawn wc p.d) p.os := fun d os => Calls.regrown_of (isZero_b n s _)
  go_upto_region 54 with (fail)
  refine wp_region_quiet_below (by kernel_rfl) (by kernel_rfl) ?_
  repeat (quiet_step (first | (go_at_call 10; exact cE _ _) | (go_at_call 11; exact cZ _ _)))
  refine wpQuiet_nil ?_
  intro _ hw'
  obtain ⟨⟨dq, osq⟩, hw''⟩ := hw'
  subst hw''
  have hb2 := below_regrown wc dq osq
  generalize grow (redrawn wc dq) osq = W4 at *
  clear k0 k1 k2 k3 k4 k5 cE cZ
  have hb4 := bon hb hb2
  have hm4 := hm.on hb2
  have v4 : W4.cell? ⟨M, 11, none⟩ = some (.slice (some ⟨mb, 0, none⟩) k k) := (hb2.cell hMl).trans hv
  clear hb hb2 hm hv hG hW
  go_wp2_with fail
  go_loop [43] (fun i => ∃ j : Nat, j ≤ k ∧ i = .int .i64 j) (fun i => k - (intOf i).toNat)
  case atStart => exact ⟨0, Nat.zero_le _, rfl⟩
  case round =>
    obtain ⟨j, hj, rfl⟩ := hrel
    rcases Nat.lt_or_ge j k with hlt | hge
    · have hjk : (j : Int) < k := by omega
      have he := encode_nm j (by omega)
      have d0 := hm4.c0 j hlt
      go_wp2
      go_round
      case rel => exact ⟨j + 1, by omega, by go_num⟩
      case measure => simp [intOf]; omega
    · obtain rfl : k = j := by omega
      go_wp2
      go_ret
      exact ⟨rfl, hb4⟩
end Go.Proofs.Ybulkdduc

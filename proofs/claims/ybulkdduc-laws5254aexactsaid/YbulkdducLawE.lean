import Derived.Test.YbulkdducLawF
namespace Go.Proofs.Ybulkdduc
open Go.RowKit Go.Sort
attribute [local go_sem ↓] Go.wp_at_zero Go.wp_at_succ

set_option linter.unusedVariables false

set_option maxRecDepth 100000 in
set_option maxHeartbeats 2000000 in
theorem partE_N (a0 a1 a2 : Int) (a3 : Bool) (a4 a5 a6 a7 a8 a9 a10 : Int) (w wc : World) (M mb k si b30 b31 b32 b33 b34 b37 : Nat) (sn : ByteArray) (hbt tmo nb sb nc sc nh sh np sp na sa : Int) (xs : ByteArray) (xi : Int) (qv : Value) (TB TC TH TP TA : Int) (pn qn : ByteArray) (pi qi : Int) (hA : AroundIs mb k sn pn qn pi qi false)
    (hk8 : k ≤ 8) (hb : Below w.heap.size w wc) (hM : Mach wc M mb k sn hbt tmo nb sb nh sh np sp na sa xs xi nc sc qv) (hT : Times wc M b30 b31 b32 b33 b34 nb sb nc sc nh sh np sp na sa) (hX : MBox wc b37 xs xi)
    (tB : Tm nb sb TB) (tC : Tm nc sc TC) (tH : Tm nh sh TH) (tP : Tm np sp TP) (tA : Tm na sa TA) (bH0 : -100000000000 ≤ TH) (bH1 : TH ≤ 100000000000) (bP0 : -100000000000 ≤ TP) (bP1 : TP ≤ 100000000000) (bt0 : 0 ≤ tmo) (bt1 : tmo ≤ 100000000000) (bh0 : 0 ≤ hbt) (bh1 : hbt ≤ 100000000000) (u11 u12 u13 u14 u15 u16 u17 u18 u19 u20 u21 u22 u25 u27 u38 u39 u40 u41 u42 u43 u44 u45 u46 u47 u48 u49 u50 u51 u52 u53 u54 u55 u56 u57 u58 u59 u60 u61 u62 u63 u64 u65 u66 u67 u68 u69 u70 u71 u72 u73 u74 u75 u76 u77 u78 u79 u80 u81 u82 u83 u84 u85 u86 u87 u88 u89 u90 u91 u92 u93 u94 u95 u96 u97 u98 u99 u100 u101 u102 u103 u104 u105 u106 u107 u108 u109 u110 u111 u112 u113 u114 u115 u116 u117 u118 u119 u120 u121 u122 u123 u124 u125 u126 u127 u128 u129 u130 u131 u132 u133 u134 u135 u136 u137 u138 u139 u140 u141 u142 u143 u144 u145 u146 u147 u148 u149 u150 u151 u152 u153 u154 u155 u156 u157 u158 u159 u160 u161 u162 u163 u164 u165 u166 u167 u168 u169 u170 u171 u172 u173 u174 u175 u176 u177 u178 u179 u180 u181 u182 u183 u184 u185 u186 u187 u188 u189 u190 u191 u192 u193 u194 u195 u196 u197 u198 u199 u200 u201 u202 u203 u204 u205 u206 u207 u208 u209 u210 u211 u212 u213 u214 u215 u216 u217 u218 u219 u220 u221 u222 u223 u224 u225 u226 u227 u228 u229 u230 u231 u232 u233 u234 u235 u236 u237 u238 u239 u240 u241 u242 u243 u244 u245 u246 u247 u248 u249 u250 u251 u252 u253 u254 u255 u256 u257 u258 u259 u260 u261 u262 : Value) :
    Code.wp Yba.prog (dropSeq 27 (Yba.f3.body.getD .skip)) (bodyPost Yba.prog Yba.f3 (Post w)) ⟨((.int .u8 a0) :: (.int .u8 a1) :: (.int .u8 a2) :: (.bool a3) :: (.int .i16 a4) :: (.int .i16 a5) :: (.int .i16 a6) :: (.int .i16 a7) :: (.int .i16 a8) :: (.int .u16 a9) :: (.int .u16 a10) :: u11 :: u12 :: u13 :: u14 :: u15 :: u16 :: u17 :: u18 :: u19 :: u20 :: u21 :: u22 :: (.int .i64 k) :: (.slice (some ⟨mb, 0, none⟩) k k) :: u25 :: (.int .i64 si) :: u27 :: (.int .i64 tmo) :: (.int .i64 hbt) :: (.pointer (some ⟨b30, 0, none⟩)) :: (.pointer (some ⟨b31, 0, none⟩)) :: (.pointer (some ⟨b32, 0, none⟩)) :: (.pointer (some ⟨b33, 0, none⟩)) :: (.pointer (some ⟨b34, 0, none⟩)) :: (.pointer (some ⟨M, 0, none⟩)) :: (.int .i64 (-1)) :: (.pointer (some ⟨b37, 0, none⟩)) :: u38 :: u39 :: u40 :: u41 :: u42 :: u43 :: u44 :: u45 :: u46 :: u47 :: u48 :: u49 :: u50 :: u51 :: u52 :: u53 :: u54 :: u55 :: u56 :: u57 :: u58 :: u59 :: u60 :: u61 :: u62 :: u63 :: u64 :: u65 :: u66 :: u67 :: u68 :: u69 :: u70 :: u71 :: u72 :: u73 :: u74 :: u75 :: u76 :: u77 :: u78 :: u79 :: u80 :: u81 :: u82 :: u83 :: u84 :: u85 :: u86 :: u87 :: u88 :: u89 :: u90 :: u91 :: u92 :: u93 :: u94 :: u95 :: u96 :: u97 :: u98 :: u99 :: u100 :: u101 :: u102 :: u103 :: u104 :: u105 :: u106 :: u107 :: u108 :: u109 :: u110 :: u111 :: u112 :: u113 :: u114 :: u115 :: u116 :: u117 :: u118 :: u119 :: u120 :: u121 :: u122 :: u123 :: u124 :: u125 :: u126 :: u127 :: u128 :: u129 :: u130 :: u131 :: u132 :: u133 :: u134 :: u135 :: u136 :: u137 :: u138 :: u139 :: u140 :: u141 :: u142 :: u143 :: u144 :: u145 :: u146 :: u147 :: u148 :: u149 :: u150 :: u151 :: u152 :: u153 :: u154 :: u155 :: u156 :: u157 :: u158 :: u159 :: u160 :: u161 :: u162 :: u163 :: u164 :: u165 :: u166 :: u167 :: u168 :: u169 :: u170 :: u171 :: u172 :: u173 :: u174 :: u175 :: u176 :: u177 :: u178 :: u179 :: u180 :: u181 :: u182 :: u183 :: u184 :: u185 :: u186 :: u187 :: u188 :: u189 :: u190 :: u191 :: u192 :: u193 :: u194 :: u195 :: u196 :: u197 :: u198 :: u199 :: u200 :: u201 :: u202 :: u203 :: u204 :: u205 :: u206 :: u207 :: u208 :: u209 :: u210 :: u211 :: u212 :: u213 :: u214 :: u215 :: u216 :: u217 :: u218 :: u219 :: u220 :: u221 :: u222 :: u223 :: u224 :: u225 :: u226 :: u227 :: u228 :: u229 :: u230 :: u231 :: u232 :: u233 :: u234 :: u235 :: u236 :: u237 :: u238 :: u239 :: u240 :: u241 :: u242 :: u243 :: u244 :: u245 :: u246 :: u247 :: u248 :: u249 :: u250 :: u251 :: u252 :: u253 :: u254 :: u255 :: u256 :: u257 :: u258 :: u259 :: u260 :: u261 :: u262 :: []).toArray, []⟩ wc := by
  conv => arg 2; whnf
  go_wp2_with fail
  refine (wake_none M mb k sn hbt tmo nb sb nh sh np sp na sa xs xi nc sc qv pn qn pi qi TB _ hM hA tB).mono ?_
  rintro e w1 ⟨n, s, rfl, tg, hq⟩
  have hb1 := bon hb hq
  have hM1 := hM.on hq
  have hT1 := hT.on hq
  have hX1 := hX.on hq
  have hm1 := hM1.mems
  have x0 := hT1.x1.c0
  have x1 := hT1.x1.c1
  have x2 := hT1.x1.c2
  have xl := hT1.x1.lt
  have ml := hM1.lt
  clear hb hT hX hM
  go_upto_if 179 with (fail)
  go_cut [] (fun wd => Below w.heap.size w wd ∧ Mems wd mb k ∧ wd.cell? ⟨M, 11, none⟩ = some (.slice (some ⟨mb, 0, none⟩) k k) ∧ M < wd.heap.size ∧ Box wd w1.heap.size n s ∧ Box wd (w1.heap.size + 1) n s)
  case first =>
    go_wp2_with fail
    go_meet
    case rel =>
      obtain ⟨e1, e2⟩ := tB.same tg
      subst e1 e2
      have f2 := b2 w1 (.cells #[.int .u64 nb, .int .i64 sb, .pointer none] 40) (.cells #[.int .u64 nb, .int .i64 sb, .pointer none] 40)
      refine ⟨bon hb1 f2, hm1.on f2, (hM1.on f2).f11, (hM1.on f2).lt, (box_new w1 nb sb).on (b1 _ _), ?_⟩
      have := box_new (w1.alloc (.cells #[.int .u64 nb, .int .i64 sb, .pointer none] 40)) nb sb
      simpa only [World.size_alloc] using this
  case rest =>
    obtain ⟨hb9, hm9, hv9, hl9, hG9, hW9⟩ := hcut
    rename_i hK
    refine hK _ _ ?_
    exact partF w _ M mb k _ _ n s hk8 hb9 hm9 hv9 hl9 hG9 hW9 tg.lo tg.hi _ _ _ _ _ _ _ _ _ _ _ _ _ _ _ _ _ _ _ _ _ _ _ _ _ _ _ _ _ _ _ _ _ _ _ _ _ _ _ _ _ _ _ _ _ _ _ _ _ _ _ _ _ _ _ _ _ _ _ _ _ _ _ _ _ _ _ _ _ _ _ _ _ _ _ _ _ _ _ _ _ _ _ _ _ _ _ _ _ _ _ _ _ _ _ _ _ _ _ _ _ _ _ _ _ _ _ _ _ _ _ _ _ _ _ _ _ _ _ _ _ _ _ _ _ _ _ _ _ _ _ _ _ _ _ _ _ _ _ _ _ _ _ _ _ _ _ _ _ _ _ _ _ _ _ _ _ _ _ _ _ _ _ _ _ _ _ _ _ _ _ _ _ _ _ _ _ _ _ _ _ _ _ _ _ _ _ _ _ _ _ _ _ _ _ _ _ _ _ _ _ _ _ _ _ _ _ _ _ _ _ _ _ _ _ _ _ _ _ _ _ _ _ _ _ _ _ _ _ _ _ _ _ _ _ _ _ _ _ _ _ _ _ _ _ _ _ _ _ _ _ _ _ _ _ _ _ _ _
set_option maxRecDepth 100000 in
set_option maxHeartbeats 2000000 in
theorem partE_S (a0 a1 a2 : Int) (a3 : Bool) (a4 a5 a6 a7 a8 a9 a10 : Int) (w wc : World) (M mb k si b30 b31 b32 b33 b34 b37 : Nat) (sn : ByteArray) (hbt tmo nb sb nc sc nh sh np sp na sa : Int)  (qv : Value) (TB TC TH TP TA : Int) (p : Nat) (qn : ByteArray) (qi : Int) (hpk : p < k) (hA : AroundIs mb k sn (nm p) qn p qi true)
    (hk8 : k ≤ 8) (hb : Below w.heap.size w wc) (hM : Mach wc M mb k sn hbt tmo nb sb nh sh np sp na sa (nm p) p nc sc qv) (hT : Times wc M b30 b31 b32 b33 b34 nb sb nc sc nh sh np sp na sa) (hX : MBox wc b37 (nm p) p)
    (tB : Tm nb sb TB) (tC : Tm nc sc TC) (tH : Tm nh sh TH) (tP : Tm np sp TP) (tA : Tm na sa TA) (bH0 : -100000000000 ≤ TH) (bH1 : TH ≤ 100000000000) (bP0 : -100000000000 ≤ TP) (bP1 : TP ≤ 100000000000) (bt0 : 0 ≤ tmo) (bt1 : tmo ≤ 100000000000) (bh0 : 0 ≤ hbt) (bh1 : hbt ≤ 100000000000) (u11 u12 u13 u14 u15 u16 u17 u18 u19 u20 u21 u22 u25 u27 u38 u39 u40 u41 u42 u43 u44 u45 u46 u47 u48 u49 u50 u51 u52 u53 u54 u55 u56 u57 u58 u59 u60 u61 u62 u63 u64 u65 u66 u67 u68 u69 u70 u71 u72 u73 u74 u75 u76 u77 u78 u79 u80 u81 u82 u83 u84 u85 u86 u87 u88 u89 u90 u91 u92 u93 u94 u95 u96 u97 u98 u99 u100 u101 u102 u103 u104 u105 u106 u107 u108 u109 u110 u111 u112 u113 u114 u115 u116 u117 u118 u119 u120 u121 u122 u123 u124 u125 u126 u127 u128 u129 u130 u131 u132 u133 u134 u135 u136 u137 u138 u139 u140 u141 u142 u143 u144 u145 u146 u147 u148 u149 u150 u151 u152 u153 u154 u155 u156 u157 u158 u159 u160 u161 u162 u163 u164 u165 u166 u167 u168 u169 u170 u171 u172 u173 u174 u175 u176 u177 u178 u179 u180 u181 u182 u183 u184 u185 u186 u187 u188 u189 u190 u191 u192 u193 u194 u195 u196 u197 u198 u199 u200 u201 u202 u203 u204 u205 u206 u207 u208 u209 u210 u211 u212 u213 u214 u215 u216 u217 u218 u219 u220 u221 u222 u223 u224 u225 u226 u227 u228 u229 u230 u231 u232 u233 u234 u235 u236 u237 u238 u239 u240 u241 u242 u243 u244 u245 u246 u247 u248 u249 u250 u251 u252 u253 u254 u255 u256 u257 u258 u259 u260 u261 u262 : Value) :
    Code.wp Yba.prog (dropSeq 27 (Yba.f3.body.getD .skip)) (bodyPost Yba.prog Yba.f3 (Post w)) ⟨((.int .u8 a0) :: (.int .u8 a1) :: (.int .u8 a2) :: (.bool a3) :: (.int .i16 a4) :: (.int .i16 a5) :: (.int .i16 a6) :: (.int .i16 a7) :: (.int .i16 a8) :: (.int .u16 a9) :: (.int .u16 a10) :: u11 :: u12 :: u13 :: u14 :: u15 :: u16 :: u17 :: u18 :: u19 :: u20 :: u21 :: u22 :: (.int .i64 k) :: (.slice (some ⟨mb, 0, none⟩) k k) :: u25 :: (.int .i64 si) :: u27 :: (.int .i64 tmo) :: (.int .i64 hbt) :: (.pointer (some ⟨b30, 0, none⟩)) :: (.pointer (some ⟨b31, 0, none⟩)) :: (.pointer (some ⟨b32, 0, none⟩)) :: (.pointer (some ⟨b33, 0, none⟩)) :: (.pointer (some ⟨b34, 0, none⟩)) :: (.pointer (some ⟨M, 0, none⟩)) :: (.int .i64 p) :: (.pointer (some ⟨b37, 0, none⟩)) :: u38 :: u39 :: u40 :: u41 :: u42 :: u43 :: u44 :: u45 :: u46 :: u47 :: u48 :: u49 :: u50 :: u51 :: u52 :: u53 :: u54 :: u55 :: u56 :: u57 :: u58 :: u59 :: u60 :: u61 :: u62 :: u63 :: u64 :: u65 :: u66 :: u67 :: u68 :: u69 :: u70 :: u71 :: u72 :: u73 :: u74 :: u75 :: u76 :: u77 :: u78 :: u79 :: u80 :: u81 :: u82 :: u83 :: u84 :: u85 :: u86 :: u87 :: u88 :: u89 :: u90 :: u91 :: u92 :: u93 :: u94 :: u95 :: u96 :: u97 :: u98 :: u99 :: u100 :: u101 :: u102 :: u103 :: u104 :: u105 :: u106 :: u107 :: u108 :: u109 :: u110 :: u111 :: u112 :: u113 :: u114 :: u115 :: u116 :: u117 :: u118 :: u119 :: u120 :: u121 :: u122 :: u123 :: u124 :: u125 :: u126 :: u127 :: u128 :: u129 :: u130 :: u131 :: u132 :: u133 :: u134 :: u135 :: u136 :: u137 :: u138 :: u139 :: u140 :: u141 :: u142 :: u143 :: u144 :: u145 :: u146 :: u147 :: u148 :: u149 :: u150 :: u151 :: u152 :: u153 :: u154 :: u155 :: u156 :: u157 :: u158 :: u159 :: u160 :: u161 :: u162 :: u163 :: u164 :: u165 :: u166 :: u167 :: u168 :: u169 :: u170 :: u171 :: u172 :: u173 :: u174 :: u175 :: u176 :: u177 :: u178 :: u179 :: u180 :: u181 :: u182 :: u183 :: u184 :: u185 :: u186 :: u187 :: u188 :: u189 :: u190 :: u191 :: u192 :: u193 :: u194 :: u195 :: u196 :: u197 :: u198 :: u199 :: u200 :: u201 :: u202 :: u203 :: u204 :: u205 :: u206 :: u207 :: u208 :: u209 :: u210 :: u211 :: u212 :: u213 :: u214 :: u215 :: u216 :: u217 :: u218 :: u219 :: u220 :: u221 :: u222 :: u223 :: u224 :: u225 :: u226 :: u227 :: u228 :: u229 :: u230 :: u231 :: u232 :: u233 :: u234 :: u235 :: u236 :: u237 :: u238 :: u239 :: u240 :: u241 :: u242 :: u243 :: u244 :: u245 :: u246 :: u247 :: u248 :: u249 :: u250 :: u251 :: u252 :: u253 :: u254 :: u255 :: u256 :: u257 :: u258 :: u259 :: u260 :: u261 :: u262 :: []).toArray, []⟩ wc := by
  conv => arg 2; whnf
  go_wp2_with fail
  refine (wake_sus M mb k sn hbt tmo nb sb nh sh np sp na sa nc sc qv (nm p) qn p qi TB TC _ hM hA tB tC).mono ?_
  rintro e w1 ⟨n, s, rfl, tg, hq⟩
  have hb1 := bon hb hq
  have hM1 := hM.on hq
  have hT1 := hT.on hq
  have hX1 := hX.on hq
  have hm1 := hM1.mems
  have x0 := hT1.x1.c0
  have x1 := hT1.x1.c1
  have x2 := hT1.x1.c2
  have xl := hT1.x1.lt
  have ml := hM1.lt
  clear hb hT hX hM
  go_upto_if 179 with (fail)
  go_cut [] (fun wd => Below w.heap.size w wd ∧ Mems wd mb k ∧ wd.cell? ⟨M, 11, none⟩ = some (.slice (some ⟨mb, 0, none⟩) k k) ∧ M < wd.heap.size ∧ Box wd w1.heap.size n s ∧ Box wd (w1.heap.size + 1) n s)
  case first =>
    have e0 := hm1.c0 p hpk; have e1 := hm1.c1 p hpk; have e2 := hm1.c2 p hpk; have e3 := hm1.c3 p hpk; have e4 := hm1.c4 p hpk; have e5 := hm1.c5 p hpk
    have hpi : (p : Int) < k := by omega
    have hm1l := hm1.lt
    obtain ⟨q0, q1, q2, q3, q4, q5, ql⟩ := id hX1
    have hpe := ptr_eq 9995
    have yb : b37 < w1.heap.size + 1 := by omega
    have yb2 : b37 < w1.heap.size + 1 + 1 := by omega
    have yb3 : mb < w1.heap.size + 1 := by omega
    have g0 := hT1.x2.c0; have g1 := hT1.x2.c1; have g2 := hT1.x2.c2; have gl := hT1.x2.lt
    have yc : b31 < w1.heap.size + 1 := by omega
    have yc2 : b31 < w1.heap.size + 1 + 1 := by omega
    go_wp2_with fail
    refine (early_v nb sb nc sc TB TC _ tB tC).mono ?_
    rintro e w2 ⟨rfl, hq2⟩
    obtain ⟨v1, v2⟩ := tg.val
    subst v1 v2
    have f3 := b3 w1 (.cells #[.int .u64 (nsOf (early TB TC)), .int .i64 (secOf (early TB TC)), .pointer none] 40) (.cells #[.int .u64 nb, .int .i64 sb, .pointer none] 40) (.cells #[.string (nm p), .int .u64 0, .int .u64 0, .pointer none, .int .u16 0, .int .u64 p] 36)
    have d2 := bon f3 hq2
    have y38 : Box w2 w1.heap.size (nsOf (early TB TC)) (secOf (early TB TC)) := ((box_new w1 _ _).on (b2 _ (.cells #[.int .u64 nb, .int .i64 sb, .pointer none] 40) (.cells #[.string (nm p), .int .u64 0, .int .u64 0, .pointer none, .int .u16 0, .int .u64 p] 36))).on hq2
    have y39 : Box w2 (w1.heap.size + 1) nb sb := by
      have := ((box_new (w1.alloc (.cells #[.int .u64 (nsOf (early TB TC)), .int .i64 (secOf (early TB TC)), .pointer none] 40)) nb sb).on (b1 _ (.cells #[.string (nm p), .int .u64 0, .int .u64 0, .pointer none, .int .u16 0, .int .u64 p] 36))).on hq2
      simpa only [World.size_alloc] using this
    have hb2 := bon hb1 d2
    have hM2 := hM1.on d2
    obtain ⟨r0, r1, r2, rf, rl⟩ := id y39
    clear e0 e1 e2 e3 e4 e5 q0 q1 q2 q3 q4 q5 g0 g1 g2 x0 x1 x2
    go_wp2_with fail
    go_meet
    case rel =>
      have ho : Only (w1.heap.size + 1) w2 (((w2.setCell ⟨w1.heap.size + 1, 0, none⟩ (.int .u64 (nsOf (early TB TC)))).setCell ⟨w1.heap.size + 1, 1, none⟩ (.int .i64 (secOf (early TB TC)))).setCell ⟨w1.heap.size + 1, 2, none⟩ (.pointer none)) := (((Only.refl _ _).set _).set _).set _
      have hlw : w.heap.size ≤ w1.heap.size := hb1.size
      exact ⟨below_set3 hb2 (by omega) _ _ _, hM2.mems.only ho (by omega), (ho.cell _ _ (by omega)).trans hM2.f11, by rw [ho.size]; exact hM2.lt, y38.only ho (by omega), y39.set _ _⟩
  case rest =>
    obtain ⟨hb9, hm9, hv9, hl9, hG9, hW9⟩ := hcut
    rename_i hK
    refine hK _ _ ?_
    exact partF w _ M mb k _ _ n s hk8 hb9 hm9 hv9 hl9 hG9 hW9 tg.lo tg.hi _ _ _ _ _ _ _ _ _ _ _ _ _ _ _ _ _ _ _ _ _ _ _ _ _ _ _ _ _ _ _ _ _ _ _ _ _ _ _ _ _ _ _ _ _ _ _ _ _ _ _ _ _ _ _ _ _ _ _ _ _ _ _ _ _ _ _ _ _ _ _ _ _ _ _ _ _ _ _ _ _ _ _ _ _ _ _ _ _ _ _ _ _ _ _ _ _ _ _ _ _ _ _ _ _ _ _ _ _ _ _ _ _ _ _ _ _ _ _ _ _ _ _ _ _ _ _ _ _ _ _ _ _ _ _ _ _ _ _ _ _ _ _ _ _ _ _ _ _ _ _ _ _ _ _ _ _ _ _ _ _ _ _ _ _ _ _ _ _ _ _ _ _ _ _ _ _ _ _ _ _ _ _ _ _ _ _ _ _ _ _ _ _ _ _ _ _ _ _ _ _ _ _ _ _ _ _ _ _ _ _ _ _ _ _ _ _ _ _ _ _ _ _ _ _ _ _ _ _ _ _ _ _ _ _ _ _ _ _ _ _ _ _ _ _ _ _ _ _ _ _ _ _ _ _ _ _ _ _
end Go.Proofs.Ybulkdduc

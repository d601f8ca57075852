import Derived.Test.YbulkdducLawC0
namespace Go.Proofs.Ybulkdduc
open Go.RowKit Go.Sort
attribute [local go_sem ↓] Go.wp_at_zero Go.wp_at_succ

set_option linter.unusedVariables false

set_option maxRecDepth 100000 in
set_option maxHeartbeats 2000000 in
theorem partB (a0 a1 a2 : Int) (a3 : Bool) (a4 a5 a6 a7 a8 a9 a10 : Int) (w wc : World) (k si mb b27 : Nat) (sn : ByteArray) (x : Int) (i20 : 0 ≤ a2) (i21 : a2 ≤ 255) (i40 : -32768 ≤ a4) (i41 : a4 ≤ 32767) (i50 : -32768 ≤ a5) (i51 : a5 ≤ 32767) (i60 : -32768 ≤ a6) (i61 : a6 ≤ 32767) (i70 : -32768 ≤ a7) (i71 : a7 ≤ 32767) (i80 : -32768 ≤ a8) (i81 : a8 ≤ 32767) (i90 : 0 ≤ a9) (i91 : a9 ≤ 65535) (iA0 : 0 ≤ a10) (iA1 : a10 ≤ 65535) (hk8 : k ≤ 8) (hk0 : 1 ≤ k) (hsl : si < k + 1) (hsn : sn = if si < k then nm si else ⟨#[122]⟩)
    (hb : Below w.heap.size w wc) (hS : MBox wc b27 sn x) (hm : Mems wc mb k) (u11 u12 u13 u14 u15 u16 u17 u18 u19 u20 u21 u22 u25 u28 u29 u30 u31 u32 u33 u34 u35 u36 u37 u38 u39 u40 u41 u42 u43 u44 u45 u46 u47 u48 u49 u50 u51 u52 u53 u54 u55 u56 u57 u58 u59 u60 u61 u62 u63 u64 u65 u66 u67 u68 u69 u70 u71 u72 u73 u74 u75 u76 u77 u78 u79 u80 u81 u82 u83 u84 u85 u86 u87 u88 u89 u90 u91 u92 u93 u94 u95 u96 u97 u98 u99 u100 u101 u102 u103 u104 u105 u106 u107 u108 u109 u110 u111 u112 u113 u114 u115 u116 u117 u118 u119 u120 u121 u122 u123 u124 u125 u126 u127 u128 u129 u130 u131 u132 u133 u134 u135 u136 u137 u138 u139 u140 u141 u142 u143 u144 u145 u146 u147 u148 u149 u150 u151 u152 u153 u154 u155 u156 u157 u158 u159 u160 u161 u162 u163 u164 u165 u166 u167 u168 u169 u170 u171 u172 u173 u174 u175 u176 u177 u178 u179 u180 u181 u182 u183 u184 u185 u186 u187 u188 u189 u190 u191 u192 u193 u194 u195 u196 u197 u198 u199 u200 u201 u202 u203 u204 u205 u206 u207 u208 u209 u210 u211 u212 u213 u214 u215 u216 u217 u218 u219 u220 u221 u222 u223 u224 u225 u226 u227 u228 u229 u230 u231 u232 u233 u234 u235 u236 u237 u238 u239 u240 u241 u242 u243 u244 u245 u246 u247 u248 u249 u250 u251 u252 u253 u254 u255 u256 u257 u258 u259 u260 u261 u262 : Value) :
    Code.wp Yba.prog (dropSeq 7 (Yba.f3.body.getD .skip)) (bodyPost Yba.prog Yba.f3 (Post w)) ⟨((.int .u8 a0) :: (.int .u8 a1) :: (.int .u8 a2) :: (.bool a3) :: (.int .i16 a4) :: (.int .i16 a5) :: (.int .i16 a6) :: (.int .i16 a7) :: (.int .i16 a8) :: (.int .u16 a9) :: (.int .u16 a10) :: u11 :: u12 :: u13 :: u14 :: u15 :: u16 :: u17 :: u18 :: u19 :: u20 :: u21 :: u22 :: (.int .i64 k) :: (.slice (some ⟨mb, 0, none⟩) k k) :: u25 :: (.int .i64 si) :: (.pointer (some ⟨b27, 0, none⟩)) :: u28 :: u29 :: u30 :: u31 :: u32 :: u33 :: u34 :: u35 :: u36 :: u37 :: u38 :: u39 :: u40 :: u41 :: u42 :: u43 :: u44 :: u45 :: u46 :: u47 :: u48 :: u49 :: u50 :: u51 :: u52 :: u53 :: u54 :: u55 :: u56 :: u57 :: u58 :: u59 :: u60 :: u61 :: u62 :: u63 :: u64 :: u65 :: u66 :: u67 :: u68 :: u69 :: u70 :: u71 :: u72 :: u73 :: u74 :: u75 :: u76 :: u77 :: u78 :: u79 :: u80 :: u81 :: u82 :: u83 :: u84 :: u85 :: u86 :: u87 :: u88 :: u89 :: u90 :: u91 :: u92 :: u93 :: u94 :: u95 :: u96 :: u97 :: u98 :: u99 :: u100 :: u101 :: u102 :: u103 :: u104 :: u105 :: u106 :: u107 :: u108 :: u109 :: u110 :: u111 :: u112 :: u113 :: u114 :: u115 :: u116 :: u117 :: u118 :: u119 :: u120 :: u121 :: u122 :: u123 :: u124 :: u125 :: u126 :: u127 :: u128 :: u129 :: u130 :: u131 :: u132 :: u133 :: u134 :: u135 :: u136 :: u137 :: u138 :: u139 :: u140 :: u141 :: u142 :: u143 :: u144 :: u145 :: u146 :: u147 :: u148 :: u149 :: u150 :: u151 :: u152 :: u153 :: u154 :: u155 :: u156 :: u157 :: u158 :: u159 :: u160 :: u161 :: u162 :: u163 :: u164 :: u165 :: u166 :: u167 :: u168 :: u169 :: u170 :: u171 :: u172 :: u173 :: u174 :: u175 :: u176 :: u177 :: u178 :: u179 :: u180 :: u181 :: u182 :: u183 :: u184 :: u185 :: u186 :: u187 :: u188 :: u189 :: u190 :: u191 :: u192 :: u193 :: u194 :: u195 :: u196 :: u197 :: u198 :: u199 :: u200 :: u201 :: u202 :: u203 :: u204 :: u205 :: u206 :: u207 :: u208 :: u209 :: u210 :: u211 :: u212 :: u213 :: u214 :: u215 :: u216 :: u217 :: u218 :: u219 :: u220 :: u221 :: u222 :: u223 :: u224 :: u225 :: u226 :: u227 :: u228 :: u229 :: u230 :: u231 :: u232 :: u233 :: u234 :: u235 :: u236 :: u237 :: u238 :: u239 :: u240 :: u241 :: u242 :: u243 :: u244 :: u245 :: u246 :: u247 :: u248 :: u249 :: u250 :: u251 :: u252 :: u253 :: u254 :: u255 :: u256 :: u257 :: u258 :: u259 :: u260 :: u261 :: u262 :: []).toArray, []⟩ wc := by
  have HSN : Hid (sn = if si < k then nm si else ⟨#[122]⟩) := hsn
  clear hsn
  conv => arg 2; whnf
  go_wp2_with fail
  refine (at_any a4 _ i40 i41).mono ?_
  rintro e w1 ⟨nb, sb, rfl, t1, hq1⟩
  go_wp2_with fail
  refine (at_any a5 _ i50 i51).mono ?_
  rintro e w2 ⟨nc, sc, rfl, t2, hq2⟩
  go_wp2_with fail
  refine (at_any a6 _ i60 i61).mono ?_
  rintro e w3 ⟨nh, sh, rfl, t3, hq3⟩
  go_wp2_with fail
  refine (at_any a7 _ i70 i71).mono ?_
  rintro e w4 ⟨np, sp, rfl, t4, hq4⟩
  go_wp2_with fail
  refine (at_any a8 _ i80 i81).mono ?_
  rintro e w5 ⟨na, sa, rfl, t5, hq5⟩
  have d1 : Below wc.heap.size wc (w1.alloc (.cells #[.int .u64 nb, .int .i64 sb, .pointer none] 40)) := bal hq1 _
  have x1 := box_new w1 nb sb
  have f2 := bal hq2 (.cells #[.int .u64 nc, .int .i64 sc, .pointer none] 40)
  have d2 := bon d1 f2
  have x2 := box_new w2 nc sc
  have x1 := x1.on f2
  have f3 := bal hq3 (.cells #[.int .u64 nh, .int .i64 sh, .pointer none] 40)
  have d3 := bon d2 f3
  have x3 := box_new w3 nh sh
  have x1 := x1.on f3
  have x2 := x2.on f3
  have f4 := bal hq4 (.cells #[.int .u64 np, .int .i64 sp, .pointer none] 40)
  have d4 := bon d3 f4
  have x4 := box_new w4 np sp
  have x1 := x1.on f4
  have x2 := x2.on f4
  have x3 := x3.on f4
  have f5 := bal hq5 (.cells #[.int .u64 na, .int .i64 sa, .pointer none] 40)
  have d5 := bon d4 f5
  have x5 := box_new w5 na sa
  have x1 := x1.on f5
  have x2 := x2.on f5
  have x3 := x3.on f5
  have x4 := x4.on f5
  have e5 : Below wc.heap.size wc w5 := bon d4 hq5
  have hS5 := hS.on e5
  obtain ⟨y0, y1, y2, y3, y4, y5, yl⟩ := id hS5
  go_wp2_with fail
  refine (newMachine_any sn x (a10 * 1000000) (a9 * 1000000) _).mono ?_
  rintro e w6 ⟨M, rfl, hN, hMl, hq6⟩
  have l1 := Nat.lt_of_lt_of_le x1.lt hMl
  have l2 := Nat.lt_of_lt_of_le x2.lt hMl
  have l3 := Nat.lt_of_lt_of_le x3.lt hMl
  have l4 := Nat.lt_of_lt_of_le x4.lt hMl
  have l5 := Nat.lt_of_lt_of_le x5.lt hMl
  have lm := Nat.lt_of_lt_of_le (hm.on d5).lt hMl
  have x1 := x1.on hq6
  have x2 := x2.on hq6
  have x3 := x3.on hq6
  have x4 := x4.on hq6
  have x5 := x5.on hq6
  have d6 := bon d5 hq6
  have hb6 := bon hb d6
  have hm6 := hm.on d6
  have lw : w.heap.size ≤ M := Nat.le_trans (Nat.le_trans hb.size d5.size) hMl
  clear hq1 hq2 hq3 hq4 hq5 hq6 d1 d2 d3 d4 d5 d6 f2 f3 f4 f5 e5 hS5 y0 y1 y2 y3 y4 y5 yl hMl hS hm hb
  generalize w1.heap.size = b30 at *
  generalize w2.heap.size = b31 at *
  generalize w3.heap.size = b32 at *
  generalize w4.heap.size = b33 at *
  generalize w5.heap.size = b34 at *
  have p10 := x1.c0; have p11 := x1.c1; have p12 := x1.c2
  have n1 : ¬ M = b30 := by omega
  have n1' : ¬ b30 = M := by omega
  have p20 := x2.c0; have p21 := x2.c1; have p22 := x2.c2
  have n2 : ¬ M = b31 := by omega
  have n2' : ¬ b31 = M := by omega
  have p30 := x3.c0; have p31 := x3.c1; have p32 := x3.c2
  have n3 : ¬ M = b32 := by omega
  have n3' : ¬ b32 = M := by omega
  have p40 := x4.c0; have p41 := x4.c1; have p42 := x4.c2
  have n4 : ¬ M = b33 := by omega
  have n4' : ¬ b33 = M := by omega
  have p50 := x5.c0; have p51 := x5.c1; have p52 := x5.c2
  have n5 : ¬ M = b34 := by omega
  have n5' : ¬ b34 = M := by omega
  have z10 := hN.z10
  have z11 := hN.z11
  have z12 := hN.z12
  have z13 := hN.z13
  have z14 := hN.z14
  have z44 := hN.z44
  have z45 := hN.z45
  have z46 := hN.z46
  have z48 := hN.z48
  have z49 := hN.z49
  have z50 := hN.z50
  have z58 := hN.z58
  have z59 := hN.z59
  have z60 := hN.z60
  have z61 := hN.z61
  have z62 := hN.z62
  have z63 := hN.z63
  have z82 := hN.z82
  have z83 := hN.z83
  have z84 := hN.z84
  have zf := hN.fr
  go_upto_region 25 with (fail)
  go_cut [] (fun wc => Below w.heap.size w wc ∧ Mach wc M mb k sn (a10 * 1000000) (a9 * 1000000) nb sb nh sh np sp na sa ⟨#[]⟩ 0 nc sc (.slice none 0 0) ∧ (∀ o, wc.frozen? ⟨M, o, none⟩ = false) ∧ Times wc M b30 b31 b32 b33 b34 nb sb nc sc nh sh np sp na sa)
  case first =>
    go_wp2_with fail
    go_meet
    case rel =>
      have hml : mb ≠ M := by omega
      obtain ⟨q1, q2, q3⟩ := fill_mach (nb := nb) (sb := sb) (nc := nc) (sc := sc) (nh := nh) (sh := sh) (np := np) (sp := sp) (na := na) (sa := sa) hN hm6 hml
      refine ⟨?_, q1, q2, (Times.mk x1 x2 x3 x4 x5 l1 l2 l3 l4 l5).only q3⟩
      exact ((((((((((((((((((((hb6.setCell lw _).setCell lw _).setCell lw _).setCell lw _).setCell lw _).setCell lw _).setCell lw _).setCell lw _).setCell lw _).setCell lw _).setCell lw _).setCell lw _).setCell lw _).setCell lw _).setCell lw _).setCell lw _).setCell lw _).setCell lw _).setCell lw _).setCell lw _)
  case rest =>
    obtain ⟨hb7, hM7, hf7, hT7⟩ := hcut
    rename_i hK
    refine hK _ _ ?_
    exact partC a0 a1 a2 a3 a4 a5 a6 a7 a8 a9 a10 w _ M mb k si b30 b31 b32 b33 b34 sn (a10 * 1000000) (a9 * 1000000) nb sb nc sc nh sh np sp na sa ⟨#[]⟩ 0 _ _ _ _ _ hsl HSN.out i20 i21 hk0 lw hf7 hk8 hb7 hM7 hT7 t1 t2 t3 t4 t5 (by omega) (by omega) (by omega) (by omega) (by omega) (by omega) (by omega) (by omega) _ _ _ _ _ _ _ _ _ _ _ _ _ _ _ _ _ _ _ _ _ _ _ _ _ _ _ _ _ _ _ _ _ _ _ _ _ _ _ _ _ _ _ _ _ _ _ _ _ _ _ _ _ _ _ _ _ _ _ _ _ _ _ _ _ _ _ _ _ _ _ _ _ _ _ _ _ _ _ _ _ _ _ _ _ _ _ _ _ _ _ _ _ _ _ _ _ _ _ _ _ _ _ _ _ _ _ _ _ _ _ _ _ _ _ _ _ _ _ _ _ _ _ _ _ _ _ _ _ _ _ _ _ _ _ _ _ _ _ _ _ _ _ _ _ _ _ _ _ _ _ _ _ _ _ _ _ _ _ _ _ _ _ _ _ _ _ _ _ _ _ _ _ _ _ _ _ _ _ _ _ _ _ _ _ _ _ _ _ _ _ _ _ _ _ _ _ _ _ _ _ _ _ _ _ _ _ _ _ _ _ _ _ _ _ _ _ _ _ _ _ _ _ _ _ _ _ _ _ _ _ _ _ _ _ _ _ _ _ _ _

end Go.Proofs.Ybulkdduc

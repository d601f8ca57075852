import Derived.Test.YbulkdducFmtProg
import Derived.Test.YbulkdducFmtPlainC
import Derived.WalkKit
import Derived.WalkSpells
import Derived.Deep.DeepCutAuto
namespace Go.Proofs.YbulkdducFmt
open Go.RowKit Go.Lib
set_option linter.unusedVariables false

theorem drop_byte (s : ByteArray) (k : Nat) (h : k < s.size) : s.data.toList.drop k = s[k] :: s.data.toList.drop (k + 1) := by
  obtain ⟨⟨l⟩⟩ := s
  have hl : k < l.length := h
  show l.drop k = l[k] :: l.drop (k + 1)
  exact List.drop_eq_getElem_cons hl

theorem drop_all (s : ByteArray) : s.data.toList.drop s.size = [] := by
  obtain ⟨⟨l⟩⟩ := s
  exact List.drop_length

theorem sign_of_size (s : ByteArray) (h : 0 < s.size) : signOf s.data.toList = if s[0].toNat = 43 ∨ s[0].toNat = 45 then 1 else 0 := by
  have := drop_byte s 0 h
  simp only [List.drop_zero] at this
  rw [this]
  rfl

theorem head_of_size (s : ByteArray) (h : 0 < s.size) : s.data.toList.head?.map (·.toNat) = some s[0].toNat := by
  have := drop_byte s 0 h
  simp only [List.drop_zero] at this
  rw [this]
  rfl

/-- What zzs5254cmodel answers. -/
def ModelEnds (s : ByteArray) (e : Ending) : Prop :=
  (e = .returned (.tuple #[.int .i64 0, .bool false]) ∧ Bad s.data.toList) ∨ ∃ n : Nat, 1 ≤ n ∧ n ≤ 65535 ∧ e = .returned (.tuple #[.int .i64 n, .bool true]) ∧ atoiAll s.data.toList = .ok (n : Int)

/-- The code behind the first n statements. -/
def dropSeq : Nat → Code → Code
  | 0, c => c
  | n + 1, .seq _ b => dropSeq n b
  | _, c => c

/-- What holds of the loop's variables. -/
def MRel (s : ByteArray) (i v big : Value) : Prop := ∃ (j v0 : Nat) (b0 : Bool), j ≤ s.size ∧ i = .int .i64 j ∧ v = .int .i64 v0 ∧ big = .bool b0 ∧ Hid (Scan (s.data.toList.drop (signOf s.data.toList)) (s.data.toList.drop j) v0 b0)

set_option maxRecDepth 100000 in
set_option maxHeartbeats 2000000 in
theorem model_rest (s : ByteArray) (k : Nat) (b : Bool) (w : World) (hz : s.size ≤ 9223372036854775806) (hk : k = signOf s.data.toList) (hk1 : k ≤ 1) (hb : b = true ↔ s.data.toList.head?.map (·.toNat) = some 45) (u1 u2 u3 u6 u7 u8 u9 u10 u11 u12 u13 u14 u15 u16 u17 u18 u19 u20 u21 u22 u23 u24 u25 u26 u27 u28 u29 u30 u31 u32 u33 u34 u35 u36 u37 u38 u39 u40 u41 u42 u43 u44 u45 u46 u47 u48 u49 u50 u51 u52 u53 u54 u55 u56 u57 u58 u59 u60 u61 u62 : Value) :
    Code.wp Ybaf.prog (dropSeq 4 (Ybaf.f13.body.getD .skip)) (bodyPost Ybaf.prog Ybaf.f13 (fun e w' => ModelEnds s e ∧ w' = w)) ⟨((.string s) :: u1 :: u2 :: u3 :: (.int .i64 k) :: (.bool b) :: u6 :: u7 :: u8 :: u9 :: u10 :: u11 :: u12 :: u13 :: u14 :: u15 :: u16 :: u17 :: u18 :: u19 :: u20 :: u21 :: u22 :: u23 :: u24 :: u25 :: u26 :: u27 :: u28 :: u29 :: u30 :: u31 :: u32 :: u33 :: u34 :: u35 :: u36 :: u37 :: u38 :: u39 :: u40 :: u41 :: u42 :: u43 :: u44 :: u45 :: u46 :: u47 :: u48 :: u49 :: u50 :: u51 :: u52 :: u53 :: u54 :: u55 :: u56 :: u57 :: u58 :: u59 :: u60 :: u61 :: u62 :: []).toArray, []⟩ w := by
  conv => arg 2; whnf
  rcases Nat.lt_or_ge k s.size with hlt | hge
  · have hlt' : (k : Int) < s.size := by omega
    have hne : s.data.toList.drop (signOf s.data.toList) ≠ [] := by
      rw [← hk, drop_byte s k hlt]; simp
    go_wp2
    go_loop [4, 6, 7] (fun i v big => MRel s i v big) (fun i _ _ => s.size - (intOf i).toNat)
    case atStart => exact ⟨k, 0, false, by omega, rfl, rfl, rfl, by rw [← hk]; exact scan_start _⟩
    case round =>
      obtain ⟨j, v0, b0, hj, rfl, rfl, rfl, HS⟩ := hrel
      rcases Nat.lt_or_ge j s.size with hjl | hjg
      · have hjl' : (j : Int) < s.size := by omega
        have hc255 : s[j].toNat ≤ 255 := Nat.le_of_lt_succ s[j].toNat_lt
        have HS' : Hid (Scan (s.data.toList.drop (signOf s.data.toList)) (s[j] :: s.data.toList.drop (j + 1)) v0 b0) := by rw [← drop_byte s j hjl]; exact HS
        clear HS
        by_cases hd : 48 ≤ s[j].toNat ∧ s[j].toNat ≤ 57
        · have d1 : (48 : Int) ≤ s[j].toNat := by omega
          have d2 : (s[j].toNat : Int) ≤ 57 := by omega
          cases b0
          · have hv : v0 ≤ 65535 := by rcases HS'.out with ⟨_, x, _⟩ | ⟨x, _⟩; exact x; cases x
            have e1 : (((v0 * 10 + (s[j].toNat - 48) : Nat)) : Int) = (v0 : Int) * 10 + ((s[j].toNat : Int) - 48) := by omega
            by_cases hbig : v0 * 10 + (s[j].toNat - 48) ≤ 65535
            · have hbig' : (v0 : Int) * 10 + ((s[j].toNat : Int) - 48) ≤ 65535 := by omega
              have HN : Hid (Scan (s.data.toList.drop (signOf s.data.toList)) (s.data.toList.drop (j + 1)) (v0 * 10 + (s[j].toNat - 48)) false) := scan_small HS' hd.1 hd.2 hbig
              have hbig := hbig'
              go_wp2
              refine ⟨⟨_, _, _, _, _, ⟨j + 1, v0 * 10 + (s[j].toNat - 48), false, by omega, rfl, rfl, rfl, HN⟩, rfl, rfl, by go_num, by first | rfl | rw [e1], rfl⟩, by simp [intOf]; omega⟩
            · have hbig' : ¬ (v0 : Int) * 10 + ((s[j].toNat : Int) - 48) ≤ 65535 := by omega
              have hbig2 : 65535 < (v0 : Int) * 10 + ((s[j].toNat : Int) - 48) := by omega
              have HN : Hid (Scan (s.data.toList.drop (signOf s.data.toList)) (s.data.toList.drop (j + 1)) (v0 * 10 + (s[j].toNat - 48)) true) := scan_large HS' hd.1 hd.2 (by omega)
              go_wp2
              refine ⟨⟨_, _, _, _, _, ⟨j + 1, v0 * 10 + (s[j].toNat - 48), true, by omega, rfl, rfl, rfl, HN⟩, rfl, rfl, by go_num, by first | rfl | rw [e1], rfl⟩, by simp [intOf]; omega⟩
          · have HN : Hid (Scan (s.data.toList.drop (signOf s.data.toList)) (s.data.toList.drop (j + 1)) v0 true) := scan_on HS'
            go_wp2
            refine ⟨⟨_, _, _, _, _, ⟨j + 1, v0, true, by omega, rfl, rfl, rfl, HN⟩, rfl, rfl, by go_num, by first | rfl | rw [e1], rfl⟩, by simp [intOf]; omega⟩
        · have HB : Bad s.data.toList := bad_big _ hne (scan_bad HS' (by omega))
          rcases Nat.lt_or_ge s[j].toNat 48 with d1 | d1
          · have d1' : (s[j].toNat : Int) < 48 := by omega
            go_wp2
            go_ret2
            exact ⟨.inl ⟨rfl, HB⟩, rfl⟩
          · have d1' : ¬ (s[j].toNat : Int) < 48 := by omega
            have d2' : (57 : Int) < s[j].toNat := by omega
            go_wp2
            go_ret2
            exact ⟨.inl ⟨rfl, HB⟩, rfl⟩
      · obtain rfl : j = s.size := by omega
        have HS1 : Scan (s.data.toList.drop (signOf s.data.toList)) [] v0 b0 := by rw [← drop_all s]; exact HS
        clear HS
        cases b
        · have hn : s.data.toList.head?.map (·.toNat) ≠ some 45 := fun e => by have := hb.2 e; cases this
          cases b0
          · obtain ⟨x1, x2⟩ := scan_end HS1
            rcases Nat.eq_zero_or_pos v0 with rfl | hp
            · have HB : Bad s.data.toList := bad_zero _ hne x2
              clear hb hn HS1 x2
              go_wp2
              go_ret2
              exact ⟨.inl ⟨rfl, HB⟩, rfl⟩
            · have HB := good_count _ v0 hne hn x2 x1
              have hp' : ¬ (v0 : Int) < 1 := by omega
              clear hb hn HS1 x2
              go_wp2
              go_ret2
              exact ⟨.inr ⟨v0, hp, x1, rfl, HB⟩, rfl⟩
          · have HB : Bad s.data.toList := bad_big _ hne (scan_end_big HS1)
            clear hb hn HS1
            go_wp2
            go_ret2
            exact ⟨.inl ⟨rfl, HB⟩, rfl⟩
        · have HB : Bad s.data.toList := bad_neg _ hne (hb.1 rfl)
          clear hb HS1
          go_wp2
          go_ret2
          exact ⟨.inl ⟨rfl, HB⟩, rfl⟩
  · have hge' : ¬ (k : Int) < s.size := by omega
    have he : s.data.toList.drop (signOf s.data.toList) = [] := by
      rw [← hk]; exact List.drop_eq_nil_of_le hge
    go_wp2
    go_ret2
    exact ⟨.inl ⟨rfl, bad_empty _ he⟩, rfl⟩

set_option maxRecDepth 100000 in
set_option maxHeartbeats 2000000 in
theorem model_walk (s : ByteArray) (w : World) (hz : s.size ≤ 9223372036854775806) :
    Calls Ybaf.prog 13 #[.string s] w fun e w' => ModelEnds s e ∧ w' = w := by
  go_enter Ybaf.func13, Ybaf.ntmps13
  rcases Nat.eq_zero_or_pos s.size with h0 | h0
  · have e : s.data.toList = [] := by obtain ⟨⟨l⟩⟩ := s; exact List.length_eq_zero_iff.1 h0
    have h0' : ¬ (0 : Int) < s.size := by omega
    go_wp2
    go_ret2
    exact ⟨.inl ⟨rfl, bad_empty _ (by rw [e]; rfl)⟩, rfl⟩
  · have hs := sign_of_size s h0
    have hh := head_of_size s h0
    have h0' : (0 : Int) < s.size := by omega
    by_cases h43 : s[0].toNat = 43
    · have g : (s[0].toNat : Int) = 43 := by omega
      rw [if_pos (.inl h43)] at hs
      go_upto_if 21 with (fail)
      go_cut [4, 5] (fun i neg wd => i = .int .i64 1 ∧ neg = .bool false ∧ wd = w)
      case first =>
        go_wp2
        go_meet
        case rel => exact ⟨rfl, by simp, rfl⟩
      case rest =>
        rename_i hK
        refine hK _ _ ?_
        obtain ⟨rfl, rfl, rfl⟩ := hcut
        exact model_rest s 1 false _ hz hs.symm (by omega) (by rw [hh, h43]; simp) _ _ _ _ _ _ _ _ _ _ _ _ _ _ _ _ _ _ _ _ _ _ _ _ _ _ _ _ _ _ _ _ _ _ _ _ _ _ _ _ _ _ _ _ _ _ _ _ _ _ _ _ _ _ _ _ _ _ _ _ 
    by_cases h45 : s[0].toNat = 45
    · have g0 : ¬ (s[0].toNat : Int) = 43 := by omega
      have g : (s[0].toNat : Int) = 45 := by omega
      rw [if_pos (.inr h45)] at hs
      go_upto_if 21 with (fail)
      go_cut [4, 5] (fun i neg wd => i = .int .i64 1 ∧ neg = .bool true ∧ wd = w)
      case first =>
        go_wp2
        go_meet
        case rel => exact ⟨rfl, rfl, rfl⟩
      case rest =>
        rename_i hK
        refine hK _ _ ?_
        obtain ⟨rfl, rfl, rfl⟩ := hcut
        exact model_rest s 1 true _ hz hs.symm (by omega) (by rw [hh, h45]; simp) _ _ _ _ _ _ _ _ _ _ _ _ _ _ _ _ _ _ _ _ _ _ _ _ _ _ _ _ _ _ _ _ _ _ _ _ _ _ _ _ _ _ _ _ _ _ _ _ _ _ _ _ _ _ _ _ _ _ _ _ 
    · have g0 : ¬ (s[0].toNat : Int) = 43 := by omega
      have g : ¬ (s[0].toNat : Int) = 45 := by omega
      rw [if_neg (by omega)] at hs
      go_upto_if 21 with (fail)
      go_cut [4, 5] (fun i neg wd => i = .int .i64 0 ∧ neg = .bool false ∧ wd = w)
      case first =>
        go_wp2
        all_goals (rename_i hx; try (simp [g0, g] at hx))
        all_goals (go_meet; case rel => exact ⟨rfl, rfl, rfl⟩)
      case rest =>
        rename_i hK
        refine hK _ _ ?_
        obtain ⟨rfl, rfl, rfl⟩ := hcut
        exact model_rest s 0 false _ hz hs.symm (by omega) (by rw [hh]; simp [h45]) _ _ _ _ _ _ _ _ _ _ _ _ _ _ _ _ _ _ _ _ _ _ _ _ _ _ _ _ _ _ _ _ _ _ _ _ _ _ _ _ _ _ _ _ _ _ _ _ _ _ _ _ _ _ _ _ _ _ _ _ 
end Go.Proofs.YbulkdducFmt

import Derived.Test.YbulkdducFmtPlainD
import Derived.Test.YbulkdducFmtModelC
namespace Go.Proofs.YbulkdducFmt
open Go.RowKit
set_option linter.unusedVariables false

/-- What zzs5254bnum answers. -/
def NumEnds (s : ByteArray) (m : Nat) (e : Ending) : Prop :=
  (e = .returned (.tuple #[.int .i64 0, .bool false]) ∧ NoName s.data.toList m) ∨ ∃ a : Nat, e = .returned (.tuple #[.int .i64 a, .bool true]) ∧ Names s.data.toList m a

/-- What holds of the loop's variables. -/
def BRel (d : ByteArray) (v k : Value) : Prop := ∃ v0 j : Nat, j ≤ d.size ∧ v = .int .i64 v0 ∧ k = .int .i64 j ∧ Read d.data.toList j v0

theorem byte_at (d : ByteArray) (j : Nat) (h : j < d.size) : ∃ h' : j < d.data.toList.length, d.data.toList[j] = d[j] := by
  obtain ⟨⟨l⟩⟩ := d
  exact ⟨h, rfl⟩

set_option maxRecDepth 100000 in
set_option maxHeartbeats 2000000 in
theorem bnum_rest (s d : ByteArray) (m : Nat) (w : World) (hs : s.data.toList = 110 :: d.data.toList) (hd : 1 ≤ d.size) (hz : d.size ≤ 9223372036854775806) (hm : m ≤ 300) (u2 u3 u4 u5 u7 u8 u9 u10 u11 u12 u13 u14 u15 u16 u17 u18 u19 u20 u21 u22 u23 u24 u25 u26 u27 u28 u29 u30 u31 u32 u33 u34 u35 u36 u37 u38 u39 u40 u41 u42 u43 u44 u45 u46 u47 u48 u49 u50 u51 u52 u53 u54 u55 u56 u57 : Value) :
    Code.wp Ybaf.prog (dropSeq 3 (Ybaf.f9.body.getD .skip)) (bodyPost Ybaf.prog Ybaf.f9 (fun e w' => NumEnds s m e ∧ w' = w)) ⟨((.string s) :: (.int .i64 m) :: u2 :: u3 :: u4 :: u5 :: (.string d) :: u7 :: u8 :: u9 :: u10 :: u11 :: u12 :: u13 :: u14 :: u15 :: u16 :: u17 :: u18 :: u19 :: u20 :: u21 :: u22 :: u23 :: u24 :: u25 :: u26 :: u27 :: u28 :: u29 :: u30 :: u31 :: u32 :: u33 :: u34 :: u35 :: u36 :: u37 :: u38 :: u39 :: u40 :: u41 :: u42 :: u43 :: u44 :: u45 :: u46 :: u47 :: u48 :: u49 :: u50 :: u51 :: u52 :: u53 :: u54 :: u55 :: u56 :: u57 :: []).toArray, []⟩ w := by
  conv => arg 2; whnf
  have hd' : (0 : Int) < d.size := by omega
  have hb0 := drop_byte d 0 (by omega)
  simp only [List.drop_zero] at hb0
  rcases Nat.lt_or_ge 6 d.size with h6 | h6
  · have h6' : (6 : Int) < d.size := by omega
    have HB : NoName s.data.toList m := by rw [hs]; exact noName_long hm h6
    clear hs hb0
    go_wp2
    go_ret2
    exact ⟨.inl ⟨rfl, HB⟩, rfl⟩
  have h6' : ¬ (6 : Int) < d.size := by omega
  by_cases h48 : d[0].toNat = 48
  · have h48' : (d[0].toNat : Int) = 48 := by omega
    have HB : NoName s.data.toList m := by rw [hs, hb0]; exact noName_null h48
    clear hs hb0
    go_wp2
    go_ret2
    exact ⟨.inl ⟨rfl, HB⟩, rfl⟩
  have h48' : ¬ (d[0].toNat : Int) = 48 := by omega
  clear hb0
  have HN : Hid (s.data.toList = 110 :: d.data.toList) := hs
  clear hs
  go_wp2
  go_loop [7, 8] (fun v k => BRel d v k) (fun _ k => d.size - (intOf k).toNat)
  case atStart => exact ⟨0, 0, by omega, rfl, rfl, .inl ⟨rfl, rfl⟩⟩
  case round =>
    obtain ⟨v0, j, hj, rfl, rfl, hread⟩ := hrel
    have hv := read_bound hread (by omega)
    rcases Nat.lt_or_ge j d.size with hlt | hge
    · have hlt' : (j : Int) < d.size := by omega
      obtain ⟨hl, hbyte⟩ := byte_at d j hlt
      have hc255 : d[j].toNat ≤ 255 := Nat.le_of_lt_succ d[j].toNat_lt
      by_cases hdig : 48 ≤ d[j].toNat ∧ d[j].toNat ≤ 57
      · have d1 : (48 : Int) ≤ d[j].toNat := by omega
        have d2 : (d[j].toNat : Int) ≤ 57 := by omega
        have HS : BRel d (.int .i64 ((v0 : Int) * 10 + ((d[j].toNat : Int) - 48))) (.int .i64 ((j : Int) + 1)) := by
          refine ⟨v0 * 10 + (d[j].toNat - 48), j + 1, by omega, by congr 1; omega, rfl, ?_⟩
          have := read_step hread hl (by rw [hbyte]; exact hdig.1) (by rw [hbyte]; exact hdig.2) (fun e => by subst e; rw [hbyte]; exact h48)
          rw [hbyte] at this
          exact this
        clear hread hbyte
        go_wp2
        exact ⟨⟨_, _, _, _, HS, rfl, rfl, rfl, rfl⟩, by simp [intOf]; omega⟩
      · have HB : NoName s.data.toList m := by
          rw [HN.out]
          exact noName_bad (c := d[j]) (by rw [← hbyte]; exact List.getElem_mem hl) (by omega)
        clear hread hbyte
        rcases Nat.lt_or_ge d[j].toNat 48 with d1 | d1
        · have d1' : (d[j].toNat : Int) < 48 := by omega
          go_wp2
          go_ret2
          exact ⟨.inl ⟨rfl, HB⟩, rfl⟩
        · have d1' : ¬ (d[j].toNat : Int) < 48 := by omega
          have d2' : (57 : Int) < d[j].toNat := by omega
          go_wp2
          go_ret2
          exact ⟨.inl ⟨rfl, HB⟩, rfl⟩
    · obtain rfl : j = d.size := by omega
      have hall : 1 ≤ v0 ∧ d.data.toList = Lib.decDigits v0 := by
        rcases hread with ⟨e, _⟩ | ⟨_, a, _, e⟩
        · omega
        · refine ⟨a, ?_⟩
          rw [← e]
          exact (List.take_of_length_le (Nat.le_refl _)).symm
      have g1 : ¬ (v0 : Int) < 1 := by omega
      clear hread
      rcases Nat.lt_or_ge m v0 with hb | hb
      · have HB : NoName s.data.toList m := by rw [HN.out, hall.2]; exact noName_big hm hb (by omega)
        have hb' : (m : Int) < v0 := by omega
        clear hall
        go_wp2
        go_ret2
        exact ⟨.inl ⟨rfl, HB⟩, rfl⟩
      · have HB : Names s.data.toList m (v0 - 1) := ⟨by omega, by rw [HN.out, hall.2]; congr 2; omega⟩
        have hb' : ¬ (m : Int) < v0 := by omega
        have e1 : (v0 : Int) - 1 = ((v0 - 1 : Nat) : Int) := by omega
        have h1 := hall.1
        clear hall
        go_wp2
        go_ret2
        exact ⟨.inr ⟨v0 - 1, rfl, HB⟩, rfl⟩

theorem tail_list (s : ByteArray) (h : 1 ≤ s.size) : (s.extract 1 s.size).data.toList = s.data.toList.drop 1 := by
  obtain ⟨⟨l⟩⟩ := s
  simp [ByteArray.size]
  exact List.take_of_length_le (by simp)

theorem tail_size (s : ByteArray) (h : 1 ≤ s.size) : (s.extract 1 s.size).size = s.size - 1 := by
  simp [ByteArray.size_extract]

set_option maxRecDepth 100000 in
set_option maxHeartbeats 2000000 in
theorem bnum_walk (s : ByteArray) (m : Nat) (w : World) (hz : s.size ≤ 9223372036854775806) (hm : m ≤ 300) :
    Calls Ybaf.prog 9 #[.string s, .int .i64 m] w fun e w' => NumEnds s m e ∧ w' = w := by
  rcases Nat.lt_or_ge s.size 2 with h2 | h2
  · have h2' : (s.size : Int) < 2 := by omega
    have HB : NoName s.data.toList m := noName_short h2
    go_enter Ybaf.func9, Ybaf.ntmps9
    go_wp2
    go_ret2
    exact ⟨.inl ⟨rfl, HB⟩, rfl⟩
  have h2' : ¬ (s.size : Int) < 2 := by omega
  have h0' : (0 : Int) < s.size := by omega
  have hb0 := drop_byte s 0 (by omega)
  simp only [List.drop_zero, Nat.zero_add] at hb0
  by_cases h110 : s[0].toNat = 110
  · have h110' : (s[0].toNat : Int) = 110 := by omega
    obtain ⟨d, hd⟩ : ∃ d, d = s.extract 1 s.size := ⟨_, rfl⟩
    have e0 : s[0] = 110 := UInt8.toNat_inj.1 h110
    have hs : s.data.toList = 110 :: d.data.toList := by rw [hd, tail_list s (by omega), ← e0]; exact hb0
    have hds := tail_size s (by omega)
    rw [← hd] at hds
    clear hb0
    go_enter Ybaf.func9, Ybaf.ntmps9
    go_upto_region 3 with (fail)
    go_cut [6] (fun dv wd => dv = .string d ∧ wd = w)
    case first =>
      go_wp2
      go_meet
      case rel => exact ⟨by rw [hd], rfl⟩
    case rest =>
      rename_i hK
      refine hK _ _ ?_
      obtain ⟨rfl, rfl⟩ := hcut
      exact bnum_rest s d m _ hs (by omega) (by omega) hm _ _ _ _ _ _ _ _ _ _ _ _ _ _ _ _ _ _ _ _ _ _ _ _ _ _ _ _ _ _ _ _ _ _ _ _ _ _ _ _ _ _ _ _ _ _ _ _ _ _ _ _ _ _ _ 
  · have h110' : ¬ (s[0].toNat : Int) = 110 := by omega
    have HB : NoName s.data.toList m := by rw [hb0]; exact noName_head h110
    clear hb0
    go_enter Ybaf.func9, Ybaf.ntmps9
    go_wp2
    go_ret2
    exact ⟨.inl ⟨rfl, HB⟩, rfl⟩

end Go.Proofs.YbulkdducFmt

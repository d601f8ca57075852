import Derived.Test.YbulkdducFmtPlainB
namespace Go.Proofs.YbulkdducFmt
open Go.Lib
set_option linter.unusedVariables false

theorem dec_digs (u : Nat) : ∀ c ∈ decDigits u, 48 ≤ c.toNat ∧ c.toNat ≤ 57 := by
  induction u using Nat.strongRecOn with
  | ind u ih =>
    intro c hc
    by_cases h : u < 10
    · rw [decDigits, dif_pos h] at hc
      rw [List.mem_singleton.1 hc, dig_nat h]; omega
    · rw [decDigits, dif_neg h] at hc
      rcases List.mem_append.1 hc with h1 | h1
      · exact ih (u / 10) (by omega) c h1
      · rw [List.mem_singleton.1 h1, dig_nat (by omega)]; omega

theorem dec_len (u : Nat) (hu : u < 1000) : (decDigits u).length ≤ 3 := by
  rw [decDigits]
  split
  · simp
  · rw [decDigits]
    split
    · simp
    · rw [decDigits, dif_pos (by omega)]
      simp

theorem dec_step {v : Nat} {c : UInt8} (hv : 1 ≤ v) (h1 : 48 ≤ c.toNat) (h2 : c.toNat ≤ 57) : decDigits (v * 10 + (c.toNat - 48)) = decDigits v ++ [c] := by
  rw [decDigits, dif_neg (by omega)]
  have e1 : (v * 10 + (c.toNat - 48)) / 10 = v := by omega
  have e2 : 48 + (v * 10 + (c.toNat - 48)) % 10 = c.toNat := by omega
  rw [e1, e2]
  simp

theorem dec_first {c : UInt8} (h1 : 48 ≤ c.toNat) (h2 : c.toNat ≤ 57) : decDigits (c.toNat - 48) = [c] := by
  rw [decDigits, dif_pos (by omega)]
  have e2 : 48 + (c.toNat - 48) = c.toNat := by omega
  rw [e2]
  simp

/-- The word names member a of m. -/
def Names (l : List UInt8) (m a : Nat) : Prop := a < m ∧ l = 110 :: decDigits (a + 1)
/-- The word names no member. -/
def NoName (l : List UInt8) (m : Nat) : Prop := ∀ a, ¬ Names l m a

theorem noName_short {l : List UInt8} {m : Nat} (h : l.length < 2) : NoName l m := by
  rintro a ⟨_, rfl⟩
  obtain ⟨c, r, h1, _⟩ := dec_head (a + 1)
  rw [h1] at h
  simp at h
  omega

theorem noName_head {c : UInt8} {r : List UInt8} {m : Nat} (h : c.toNat ≠ 110) : NoName (c :: r) m := by
  rintro a ⟨_, e⟩
  injection e with e1 _
  subst e1
  exact h rfl

theorem noName_long {d : List UInt8} {m : Nat} (hm : m ≤ 300) (h : 6 < d.length) : NoName (110 :: d) m := by
  rintro a ⟨ha, e⟩
  injection e with _ e
  subst e
  have := dec_len (a + 1) (by omega)
  omega

theorem noName_null {d : List UInt8} {c : UInt8} {m : Nat} (h : c.toNat = 48) : NoName (110 :: c :: d) m := by
  rintro a ⟨ha, e⟩
  injection e with _ e
  obtain ⟨c', r, h1, _, _, h4⟩ := dec_head (a + 1)
  rw [h1] at e
  injection e with e _
  subst e
  have := h4 (by omega)
  omega

theorem noName_bad {d : List UInt8} {c : UInt8} {m : Nat} (hc : c ∈ d) (h : c.toNat < 48 ∨ 57 < c.toNat) : NoName (110 :: d) m := by
  rintro a ⟨ha, e⟩
  injection e with _ e
  subst e
  have := dec_digs _ c hc
  omega

theorem noName_big {v m : Nat} (hm : m ≤ 300) (hv : m < v) (hv2 : v ≤ 1000000) : NoName (110 :: decDigits v) m := by
  rintro a ⟨ha, e⟩
  injection e with _ e
  have := dec_inj (by omega) (by omega) e
  omega

/-- What the loop knows of the digits read. -/
def Read (d : List UInt8) (k v : Nat) : Prop := (k = 0 ∧ v = 0) ∨ (1 ≤ k ∧ 1 ≤ v ∧ v < 10 ^ k ∧ d.take k = decDigits v)

theorem read_bound {d : List UInt8} {k v : Nat} (h : Read d k v) (hk : k ≤ 6) : v < 1000000 := by
  rcases h with ⟨_, rfl⟩ | ⟨_, _, h, _⟩
  · omega
  · have : (10 : Nat) ^ k ≤ 10 ^ 6 := Nat.pow_le_pow_right (by omega) hk
    omega

theorem read_step {d : List UInt8} {k v : Nat} (h : Read d k v) (hk : k < d.length) (h1 : 48 ≤ d[k].toNat) (h2 : d[k].toNat ≤ 57) (h0 : k = 0 → d[k].toNat ≠ 48) : Read d (k + 1) (v * 10 + (d[k].toNat - 48)) := by
  rcases h with ⟨rfl, rfl⟩ | ⟨a, b, c, e⟩
  · right
    have := h0 rfl
    refine ⟨by omega, by omega, by omega, ?_⟩
    simp only [Nat.zero_mul, Nat.zero_add]
    rw [dec_first h1 h2, List.take_add_one, List.getElem?_eq_getElem hk]
    rfl
  · right
    refine ⟨by omega, by omega, ?_, ?_⟩
    · rw [Nat.pow_succ]; omega
    · rw [dec_step b h1 h2, ← e, List.take_add_one, List.getElem?_eq_getElem hk]
      rfl

end Go.Proofs.YbulkdducFmt

import Derived.Lib.AtoiAllCases
import Derived.Lib.ItoaNum
namespace Go.Proofs.YbulkdducFmt
open Go.Lib
set_option linter.unusedVariables false

theorem dig_nat {u : Nat} (h : u < 10) : (UInt8.ofNat (48 + u)).toNat = 48 + u := by
  rw [UInt8.toNat_ofNat']; omega

/-- The numeral, parsed. -/
theorem parse_dec (u : Nat) : ∀ r, u ≤ 1000000000 → parseUint10 0 (decDigits u ++ r) = parseUint10 u r := by
  induction u using Nat.strongRecOn with
  | ind u ih =>
    intro r hu
    by_cases h : u < 10
    · rw [decDigits, dif_pos h]
      simp only [List.singleton_append]
      rw [parseUint10, dig_nat h, if_pos (by omega), if_neg (by omega), if_neg (by omega)]
      congr 1
      omega
    · rw [decDigits, dif_neg h, List.append_assoc, ih (u / 10) (by omega) _ (by omega)]
      simp only [List.singleton_append]
      rw [parseUint10, dig_nat (by omega), if_pos (by omega), if_neg (by omega), if_neg (by omega)]
      congr 1
      omega

/-- The numeral begins with a digit. -/
theorem dec_head (u : Nat) : ∃ c r, decDigits u = c :: r ∧ 48 ≤ c.toNat ∧ c.toNat ≤ 57 ∧ (1 ≤ u → 49 ≤ c.toNat) := by
  induction u using Nat.strongRecOn with
  | ind u ih =>
    by_cases h : u < 10
    · exact ⟨_, [], by rw [decDigits, dif_pos h], by rw [dig_nat h]; omega, by rw [dig_nat h]; omega, fun h1 => by rw [dig_nat h]; omega⟩
    · obtain ⟨c, r, h1, h2, h3, h4⟩ := ih (u / 10) (by omega)
      exact ⟨c, r ++ [UInt8.ofNat (48 + u % 10)], by rw [decDigits, dif_neg h, h1]; rfl, h2, h3, fun _ => h4 (by omega)⟩

theorem atoi_dec (u : Nat) (hu : u ≤ 1000000000) : atoiAll (decDigits u) = .ok (u : Int) := by
  obtain ⟨c, r, h1, h2, h3, _⟩ := dec_head u
  have hp : parseMag (decDigits u) = .ok u := by
    have := parse_dec u [] hu
    rw [List.append_nil] at this
    rw [parseMag, if_neg (by rw [h1]; simp), this, parseUint10]
  rw [h1] at hp ⊢
  rw [atoiAll_plain c r (by omega) (by omega), hp]
  simp only [signless]
  rw [if_neg (by omega)]

theorem itoa_dec (u : Nat) : itoa (u : Int) = decDigits u := by unfold itoa; rw [if_neg (by omega)]; simp

theorem dec_inj {u v : Nat} (hu : u ≤ 1000000000) (hv : v ≤ 1000000000) (h : decDigits u = decDigits v) : u = v := by
  have h1 := atoi_dec u hu
  rw [h, atoi_dec v hv] at h1
  injection h1 with h1
  omega

end Go.Proofs.YbulkdducFmt

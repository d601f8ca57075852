import Derived.Lib.AtoiAllCases
namespace Go.Proofs.YbulkdducFmt
open Go.Lib
set_option linter.unusedVariables false

/-- What is parsed is no less than what stood before. -/
theorem parse_ge : ∀ (l : List UInt8) (acc u : Nat), parseUint10 acc l = .ok u → acc ≤ u
  | [], acc, u, h => by
    simp only [parseUint10] at h
    injection h with h
    omega
  | c :: r, acc, u, h => by
    simp only [parseUint10] at h
    split at h
    · split at h
      · cases h
      · split at h
        · cases h
        · have := parse_ge r _ u h
          omega
    · cases h

/-- What the loop knows of the rest of the digits. -/
def Scan (l0 r : List UInt8) (v : Nat) (big : Bool) : Prop :=
  (big = false ∧ v ≤ 65535 ∧ parseUint10 0 l0 = parseUint10 v r) ∨ (big = true ∧ v ≤ 655360 ∧ ∀ u, parseUint10 0 l0 = .ok u → 65535 < u)

theorem scan_start (l0 : List UInt8) : Scan l0 l0 0 false := .inl ⟨rfl, by omega, rfl⟩

theorem scan_small {l0 r : List UInt8} {v : Nat} {c : UInt8} (h : Scan l0 (c :: r) v false) (h1 : 48 ≤ c.toNat) (h2 : c.toNat ≤ 57) (h3 : v * 10 + (c.toNat - 48) ≤ 65535) : Scan l0 r (v * 10 + (c.toNat - 48)) false := by
  rcases h with ⟨_, a, b⟩ | ⟨x, _⟩
  · refine .inl ⟨rfl, h3, ?_⟩
    rw [b, parseUint10, if_pos ⟨h1, h2⟩, if_neg (by omega), if_neg (by omega)]
  · cases x

theorem scan_large {l0 r : List UInt8} {v : Nat} {c : UInt8} (h : Scan l0 (c :: r) v false) (h1 : 48 ≤ c.toNat) (h2 : c.toNat ≤ 57) (h3 : 65535 < v * 10 + (c.toNat - 48)) : Scan l0 r (v * 10 + (c.toNat - 48)) true := by
  rcases h with ⟨_, a, b⟩ | ⟨x, _⟩
  · refine .inr ⟨rfl, by omega, fun u hu => ?_⟩
    rw [b, parseUint10, if_pos ⟨h1, h2⟩, if_neg (by omega), if_neg (by omega)] at hu
    have := parse_ge _ _ _ hu
    omega
  · cases x

theorem scan_on {l0 r : List UInt8} {v : Nat} {c : UInt8} (h : Scan l0 (c :: r) v true) : Scan l0 r v true := by
  rcases h with ⟨x, _⟩ | ⟨_, a, b⟩
  · cases x
  · exact .inr ⟨rfl, a, b⟩

theorem scan_bad {l0 r : List UInt8} {v : Nat} {big : Bool} {c : UInt8} (h : Scan l0 (c :: r) v big) (h1 : c.toNat < 48 ∨ 57 < c.toNat) : ∀ u, parseUint10 0 l0 = .ok u → 65535 < u := by
  rcases h with ⟨_, a, b⟩ | ⟨_, _, b⟩
  · intro u hu
    rw [b, parseUint10, if_neg (by omega)] at hu
    cases hu
  · exact b

theorem scan_end {l0 : List UInt8} {v : Nat} (h : Scan l0 [] v false) : v ≤ 65535 ∧ parseUint10 0 l0 = .ok v := by
  rcases h with ⟨_, a, b⟩ | ⟨x, _⟩
  · exact ⟨a, by rw [b, parseUint10]⟩
  · cases x

theorem scan_end_big {l0 : List UInt8} {v : Nat} (h : Scan l0 [] v true) : ∀ u, parseUint10 0 l0 = .ok u → 65535 < u := by
  rcases h with ⟨x, _⟩ | ⟨_, _, b⟩
  · cases x
  · exact b

/-- The word is no count. -/
def Bad (l : List UInt8) : Prop := ∀ v : Int, atoiAll l = .ok v → v < 1 ∨ 65535 < v

/-- The sign, and what stands behind it. -/
def signOf (l : List UInt8) : Nat := match l with
  | [] => 0
  | c :: _ => if c.toNat = 43 ∨ c.toNat = 45 then 1 else 0

theorem atoi_split (l : List UInt8) (hl : l.drop (signOf l) ≠ []) : atoiAll l = (if l.head?.map (·.toNat) = some 45 then signed (parseUint10 0 (l.drop (signOf l))) else signless (parseUint10 0 (l.drop (signOf l)))) := by
  cases l with
  | nil => exact absurd rfl hl
  | cons c r =>
    by_cases h43 : c = 43
    · subst h43
      have e : (43 : UInt8).toNat = 43 := rfl
      simp only [signOf, e] at hl ⊢
      simp at hl
      rw [atoiAll_plus, parseMag, if_neg hl]
      simp
    by_cases h45 : c = 45
    · subst h45
      have e : (45 : UInt8).toNat = 45 := rfl
      simp only [signOf, e] at hl ⊢
      simp at hl
      rw [atoiAll_minus, parseMag, if_neg hl]
      simp
    · have g1 : c.toNat ≠ 43 := fun e => h43 (UInt8.toNat_inj.1 e)
      have g2 : c.toNat ≠ 45 := fun e => h45 (UInt8.toNat_inj.1 e)
      rw [atoiAll_plain c r g1 g2, parseMag, if_neg (by simp)]
      simp [signOf, g1, g2]

theorem bad_empty (l : List UInt8) (hl : l.drop (signOf l) = []) : Bad l := by
  intro v hv
  cases l with
  | nil => cases hv
  | cons c r =>
    by_cases h43 : c = 43
    · subst h43
      have e : (43 : UInt8).toNat = 43 := rfl
      simp only [signOf, e] at hl
      simp at hl
      subst hl
      rw [atoiAll_plus] at hv
      cases hv
    by_cases h45 : c = 45
    · subst h45
      have e : (45 : UInt8).toNat = 45 := rfl
      simp only [signOf, e] at hl
      simp at hl
      subst hl
      rw [atoiAll_minus] at hv
      cases hv
    · have g1 : c.toNat ≠ 43 := fun e => h43 (UInt8.toNat_inj.1 e)
      have g2 : c.toNat ≠ 45 := fun e => h45 (UInt8.toNat_inj.1 e)
      simp [signOf, g1, g2] at hl

theorem bad_big (l : List UInt8) (hl : l.drop (signOf l) ≠ []) (h : ∀ u, parseUint10 0 (l.drop (signOf l)) = .ok u → 65535 < u) : Bad l := by
  intro v hv
  rw [atoi_split l hl] at hv
  cases hp : parseUint10 0 (l.drop (signOf l))
  case range => rw [hp] at hv; simp [signed, signless] at hv
  case ok u =>
    have := h u hp
    rw [hp] at hv
    split at hv
    · simp only [signed] at hv
      split at hv
      · cases hv
      · injection hv with hv; omega
    · simp only [signless] at hv
      split at hv
      · cases hv
      · injection hv with hv; omega
  all_goals (rw [hp] at hv; simp [signed, signless] at hv)

theorem bad_zero (l : List UInt8) (hl : l.drop (signOf l) ≠ []) (h : parseUint10 0 (l.drop (signOf l)) = .ok 0) : Bad l := by
  intro v hv
  rw [atoi_split l hl, h] at hv
  left
  split at hv <;> simp [signed, signless] at hv <;> omega

theorem bad_neg (l : List UInt8) (hl : l.drop (signOf l) ≠ []) (hn : l.head?.map (·.toNat) = some 45) : Bad l := by
  intro v hv
  rw [atoi_split l hl, if_pos hn] at hv
  left
  cases hp : parseUint10 0 (l.drop (signOf l))
  case range => rw [hp] at hv; simp [signed] at hv
  case ok u =>
    rw [hp] at hv
    simp only [signed] at hv
    split at hv
    · cases hv
    · injection hv with hv; omega
  all_goals (rw [hp] at hv; simp [signed] at hv)

theorem good_count (l : List UInt8) (u : Nat) (hl : l.drop (signOf l) ≠ []) (hn : l.head?.map (·.toNat) ≠ some 45) (h : parseUint10 0 (l.drop (signOf l)) = .ok u) (hu : u ≤ 65535) : atoiAll l = .ok (u : Int) := by
  rw [atoi_split l hl, if_neg hn, h]
  simp only [signless]
  rw [if_neg (by omega)]

end Go.Proofs.YbulkdducFmt

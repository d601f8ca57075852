import Derived.Test.YbulkdducFmtModelC
namespace Go.Proofs.YbulkdducFmt
open Go.RowKit Go.Lib
set_option linter.unusedVariables false

@[go_sem] theorem nil29 (w : World) : (binOp .eql 29 (.slice none 0 0) (.slice none 0 0)).run Ybaf.prog w = .ok (.bool true) w := by kernel_rfl
@[go_sem] theorem nil25 (w : World) : (binOp .eql 25 (.slice none 0 0) (.slice none 0 0)).run Ybaf.prog w = .ok (.bool true) w := by kernel_rfl

set_option maxRecDepth 100000 in
set_option maxHeartbeats 1000000 in
theorem unchanged_walk (P : Nat) (pr ln ml : Int) (w : World) (c0 : w.cell? ⟨P, 0, none⟩ = some (.int .i64 pr)) (c1 : w.cell? ⟨P, 1, none⟩ = some (.slice none 0 0)) (c3 : w.cell? ⟨P, 3, none⟩ = some (.int .i64 ln)) (c5 : w.cell? ⟨P, 5, none⟩ = some (.int .i64 ml)) (c7 : w.cell? ⟨P, 7, none⟩ = some (.slice none 0 0)) :
    Calls Ybaf.prog 12 #[.pointer (some ⟨P, 0, none⟩), .int .i64 pr, .int .i64 ln, .int .i64 ml] w fun e w' => e = .returned (.bool true) ∧ w' = w := by
  go_enter Ybaf.func12, Ybaf.ntmps12
  go_wp2
  go_ret
  exact ⟨rfl, rfl⟩

/-- The n fates at block N are fresh. -/
structure Fates (w : World) (N n : Nat) : Prop where
  c0 : ∀ i, i < n → w.cell? ⟨N, i * 2, none⟩ = some (.bool false)
  c1 : ∀ i, i < n → w.cell? ⟨N, i * 2 + 1, none⟩ = some (.int .i64 0)

set_option maxHeartbeats 1000000 in
theorem fresh_walk (N n : Nat) (w : World) (hn : n ≤ 65535) (h : Fates w N n) :
    Calls Ybaf.prog 14 #[.slice (some ⟨N, 0, none⟩) n n, .int .i64 n] w fun e w' => e = .returned (.bool true) ∧ w' = w := by
  go_enter Ybaf.func14, Ybaf.ntmps14
  go_wp2
  go_loop [5] (fun i => ∃ j : Nat, j ≤ n ∧ i = .int .i64 j) (fun i => n - (intOf i).toNat)
  case atStart => exact ⟨0, Nat.zero_le _, rfl⟩
  case round =>
    obtain ⟨j, hj, rfl⟩ := hrel
    rcases Nat.lt_or_ge j n with hlt | hge
    · have hjk : (j : Int) < n := by omega
      have d0 := h.c0 j hlt
      have d1 := h.c1 j hlt
      go_wp2
      go_round
      case rel => exact ⟨j + 1, by omega, by go_num⟩
      case measure => simp [intOf]; omega
    · obtain rfl : n = j := by omega
      go_wp2
      go_ret
      exact ⟨rfl, rfl⟩
end Go.Proofs.YbulkdducFmt

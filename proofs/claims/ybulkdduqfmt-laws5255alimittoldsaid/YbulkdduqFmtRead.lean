import Derived.Test.YbulkdduqFmtLift
import Derived.Test.YbulkdduqFmtFacts
import Derived.WalkKit
import Derived.WalkSpells
import Derived.BigQuiet
import Derived.Deep.QuietTactic
import Derived.Lib.OthersKept
import Derived.Laws.BitsAllLaws
import Derived.Test.YbulkdduqFmtQuiet
namespace Go.Proofs.YbulkdduqFmt
open Go.RowKit Go.Extern.Stop Go.Stop Go.Extern
set_option linter.unusedVariables false

theorem bel2 {w w1 : World} (h : Below w.heap.size w w1) (a b : Obj) : Below w.heap.size w ((w1.alloc a).alloc b).drew :=
  ((h.alloc h.size a).alloc (by have := h.size; simp; omega) b).drew

theorem below_drewN {B : Nat} {a w : World} (h : Below B a w) (n : Nat) : Below B a (w.drewN n) := h.trans ⟨rfl, rfl, rfl, Nat.le_refl _, fun _ _ => rfl⟩

set_option maxRecDepth 100000 in
set_option maxHeartbeats 2000000 in
theorem take_ok (R len cap : Nat) (x : Addr) (o : Nat) (w : World) (c0 : w.cell? ⟨R, 0, none⟩ = some (.slice (some x) len cap)) (c1 : w.cell? ⟨R, 1, none⟩ = some (.int .i64 o)) (hfr : ∀ o, w.frozen? ⟨R, o, none⟩ = false) (hl : len ≤ 1048576) (ho : o + 4 ≤ len) (hc : len ≤ cap) :
    Calls Ybaf.prog 9 #[.pointer (some ⟨R, 0, none⟩), .int .i64 4] w fun e w' => e = .returned (.tuple #[.slice (some (x.add o)) 4 (cap - o), .nilIface]) ∧ ∃ n, w' = (w.drewN n).setCell ⟨R, 1, none⟩ (.int .i64 ((o : Int) + 4)) := by
  have hR := block_lt_of_cell c0
  have h4 : ¬ ((len : Int) - o < 4) := by omega
  go_enter Ybaf.func9, Ybaf.ntmps9
  go_wp2
  go_quiet (fail)
  go_wp2
  go_quiet (fail)
  go_wp2
  have e4 : o + 4 - o = 4 := by omega
  rw [e4]
  go_ret2
  exact ⟨rfl, _, rfl⟩

theorem or_add (lo h k : Nat) (hlo : lo < 2 ^ k) : lo ||| (h * 2 ^ k) = lo + h * 2 ^ k := by
  rw [Nat.or_comm, ← Nat.shiftLeft_eq, ← Nat.shiftLeft_add_eq_or_of_lt hlo]
  omega

theorem or32 (lo h k : Nat) (hlo : lo < 2 ^ k) (hk : lo < 4294967296) (hh : h * 2 ^ k < 4294967296) : bits .or .u32 (lo : Int) ((h * 2 ^ k : Nat) : Int) = ((lo + h * 2 ^ k : Nat) : Int) := by
  rw [u32_or_nat _ _ hk hh, or_add _ _ _ hlo]

theorem or32r (lo h k : Nat) (hlo : lo < 2 ^ k) (hk : lo < 4294967296) (hh : h * 2 ^ k < 4294967296) : bits .or .u32 ((h * 2 ^ k : Nat) : Int) (lo : Int) = ((lo + h * 2 ^ k : Nat) : Int) := by
  rw [u32_or_nat _ _ hh hk, Nat.or_comm, or_add _ _ _ hlo]

/-- The word of four bytes. -/
def word (a b c d : Nat) : Nat := a * 16777216 + b * 65536 + c * 256 + d
theorem word_lt {a b c d : Nat} (ha : a ≤ 255) (hb : b ≤ 255) (hc : c ≤ 255) (hd : d ≤ 255) : word a b c d < 4294967296 := by unfold word; omega

theorem word_or {a b c d : Nat} (ha : a ≤ 255) (hb : b ≤ 255) (hc : c ≤ 255) (hd : d ≤ 255) : bits .or .u32 (bits .or .u32 (bits .or .u32 (d : Int) ((c : Int) * 256)) ((b : Int) * 65536)) ((a : Int) * 16777216) = (word a b c d : Int) := by
  rw [show (c : Int) * 256 = ((c * 2 ^ 8 : Nat) : Int) by simp, or32 d c 8 (by omega) (by omega) (by omega),
    show (b : Int) * 65536 = ((b * 2 ^ 16 : Nat) : Int) by simp, or32 _ b 16 (by omega) (by omega) (by omega),
    show (a : Int) * 16777216 = ((a * 2 ^ 24 : Nat) : Int) by simp, or32 _ a 24 (by omega) (by omega) (by omega)]
  unfold word
  omega

set_option maxRecDepth 100000 in
set_option maxHeartbeats 2000000 in
/-- The big-endian word of four bytes. -/
theorem be32 (x : Addr) (cap : Nat) (a b c d : Nat) (w : World) (ha : a ≤ 255) (hb : b ≤ 255) (hc : c ≤ 255) (hd : d ≤ 255) (k0 : w.cell? x = some (.int .u8 a)) (k1 : w.cell? (x.add 1) = some (.int .u8 b)) (k2 : w.cell? (x.add 2) = some (.int .u8 c)) (k3 : w.cell? (x.add 3) = some (.int .u8 d)) :
    Calls Ybaf.prog 10 #[.agg #[], .slice (some x) 4 cap] w fun e w' => e = .returned (.int .u32 (word a b c d)) ∧ Below w.heap.size w w' := by
  have k1' : w.cell? ⟨x.block, x.off + 1, none⟩ = some (.int .u8 b) := k1
  have k2' : w.cell? ⟨x.block, x.off + 2, none⟩ = some (.int .u8 c) := k2
  have k3' : w.cell? ⟨x.block, x.off + 3, none⟩ = some (.int .u8 d) := k3
  have hx := block_lt_of_cell k0
  have hw := word_or ha hb hc hd
  go_enter Ybaf.func10, Ybaf.ntmps10
  go_wp2
  go_quiet (fail)
  go_wp2
  go_ret
  exact ⟨rfl, below_drewN ((Below.refl _ _).alloc (Nat.le_refl _) _) _⟩

/-- A new error, made by fmt.Errorf. -/
def TakeErr (w : World) (e : Ending) (w' : World) : Prop := (∃ N, e = .returned (.tuple #[.slice none 0 0, .iface 46 (.pointer (some ⟨N, 0, none⟩))])) ∧ Below w.heap.size w w'

set_option maxRecDepth 100000 in
set_option maxHeartbeats 2000000 in
theorem take_err (F : Interp) (R len cap : Nat) (a : Option Addr) (o : Nat) (w : World) (hF : F.answers w.tape) (c0 : w.cell? ⟨R, 0, none⟩ = some (.slice a len cap)) (c1 : w.cell? ⟨R, 1, none⟩ = some (.int .i64 o)) (hl : len ≤ 1048576) (ho : len < o + 4) (ho2 : o ≤ len) :
    Calls Ybaf.prog 9 #[.pointer (some ⟨R, 0, none⟩), .int .i64 4] w (TakeErr w) := by
  have hR := block_lt_of_cell c0
  have h4 : ((len : Int) - o < 4) := by omega
  go_enter Ybaf.func9, Ybaf.ntmps9
  go_wp2
  go_quiet (fail)
  have hF' := answers_open hF
  go_wp2
  obtain ⟨w0, hw0⟩ : ∃ w0, w0 = w.drewN nq := ⟨_, rfl⟩
  have hb0 : Below w.heap.size w w0 := by rw [hw0]; exact below_drewN (Below.refl _ _) _
  have d0 : w0.cell? ⟨R, 0, none⟩ = some (.slice a len cap) := (hb0.cell (p := ⟨R, 0, none⟩) hR).trans c0
  have d1 : w0.cell? ⟨R, 1, none⟩ = some (.int .i64 o) := (hb0.cell (p := ⟨R, 1, none⟩) hR).trans c1
  rw [← hw0]
  have k0 := cell_regrown d0
  have k1 := cell_regrown d1
  clear hF' c0 c1 hw0
  refine QuietTail.region_quiet_tail_below 13 (by kernel_rfl) (by kernel_rfl) ?_
  simp only [List.take_succ_cons, List.take_zero, List.drop_succ_cons, List.drop_zero]
  repeat (quiet_step (fail))
  refine wpQuiet_nil ?_
  intro _ hw'
  obtain ⟨⟨dq, osq⟩, hw''⟩ := hw'
  subst hw''
  have hb1 := below_regrown w0 dq osq
  generalize Sort.grow (redrawn w0 dq) osq = w1 at *
  have hbW := hb0.trans (hb1.mono hb0.size)
  have hF1 : F.answers w1.tape := by rw [hbW.tape]; exact hF
  have hF' := answers_open hF1
  clear k0 k1 d0 d1
  go_wp2
  go_ret2
  exact ⟨⟨_, rfl⟩, bel2 hbW _ _⟩

/-- The reader at block R. -/
structure Rd (w : World) (R : Nat) (v : Value) (o : Int) : Prop where
  c0 : w.cell? ⟨R, 0, none⟩ = some v
  c1 : w.cell? ⟨R, 1, none⟩ = some (.int .i64 o)
  fr : ∀ k, w.frozen? ⟨R, k, none⟩ = false
  lt : R < w.heap.size

theorem Rd.on {w w' : World} {R : Nat} {v : Value} {o : Int} (h : Rd w R v o) (hb : Below w.heap.size w w') : Rd w' R v o :=
  ⟨(hb.cell h.lt).trans h.c0, (hb.cell h.lt).trans h.c1, fun k => (hb.frozen (p := ⟨R, k, none⟩) h.lt).trans (h.fr k), Nat.lt_of_lt_of_le h.lt hb.size⟩

theorem Rd.set {w : World} {R : Nat} {v : Value} {o : Int} (h : Rd w R v o) (n : Nat) (p : Int) : Rd ((w.drewN n).setCell ⟨R, 1, none⟩ (.int .i64 p)) R v p := by
  have c0 := h.c0
  have c1 := h.c1
  have hlt := h.lt
  refine ⟨?_, ?_, fun k => ?_, ?_⟩
  · go_simp
  · go_simp
  · rw [World.frozen?_setCell]; exact h.fr k
  · simpa using hlt

theorem set_other (w : World) (R n : Nat) (u : Value) (p : Addr) (h : p.block ≠ R) : ((w.drewN n).setCell ⟨R, 1, none⟩ u).cell? p = w.cell? p := by
  rw [World.cell?_setCell_other _ _ _ _ (fun e => h (congrArg Addr.block e).symm)]
  rfl

theorem add_add (x : Addr) (o k : Nat) : (x.add o).add k = x.add (o + k) := by
  unfold Addr.add
  by_cases h1 : o = 0 <;> by_cases h2 : k = 0 <;> simp [h1, h2, Nat.add_assoc]

theorem add_block (x : Addr) (o : Nat) : (x.add o).block = x.block := by
  unfold Addr.add
  split <;> rfl

/-- What uint32 leaves: the word, and the reader four bytes on. -/
def ReadOk (w : World) (R : Nat) (v : Value) (o : Int) (n : Nat) (e : Ending) (w' : World) : Prop := e = .returned (.tuple #[.int .u32 n, .nilIface]) ∧ Rd w' R v (o + 4) ∧ Below R w w'

set_option maxRecDepth 100000 in
set_option maxHeartbeats 2000000 in
theorem uint32_ok (R len cap : Nat) (x : Addr) (o : Nat) (w : World) (a b c d : Nat) (ha : a ≤ 255) (hb : b ≤ 255) (hc : c ≤ 255) (hd : d ≤ 255) (hr : Rd w R (.slice (some x) len cap) o) (hl : len ≤ 1048576) (ho : o + 4 ≤ len) (hcap : len ≤ cap) (hx : x.block ≠ R)
    (k0 : w.cell? (x.add o) = some (.int .u8 a)) (k1 : w.cell? (x.add (o + 1)) = some (.int .u8 b)) (k2 : w.cell? (x.add (o + 2)) = some (.int .u8 c)) (k3 : w.cell? (x.add (o + 3)) = some (.int .u8 d)) :
    Calls Ybaf.prog 7 #[.pointer (some ⟨R, 0, none⟩)] w (ReadOk w R (.slice (some x) len cap) o (word a b c d)) := by
  have ht := take_ok R len cap x o w hr.c0 hr.c1 hr.fr hl ho hcap
  go_enter Ybaf.func7, Ybaf.ntmps7
  go_wp2_with (go_at_call 9; refine ht.mono ?_)
  rintro e w1 ⟨rfl, n, hw1⟩
  have hr1 := hr.set n ((o : Int) + 4)
  rw [← hw1] at hr1
  have hoth : ∀ k, w1.cell? (x.add k) = w.cell? (x.add k) := fun k => by rw [hw1]; exact set_other w R n _ _ (by rw [add_block]; exact hx)
  have hb1 : Below R w w1 := by rw [hw1]; exact (below_drewN (Below.refl R w) n).setCell (p := ⟨R, 1, none⟩) (Nat.le_refl R) _
  have m0 := (hoth o).trans k0
  have m1 : w1.cell? ((x.add o).add 1) = some (.int .u8 b) := by rw [add_add]; exact (hoth _).trans k1
  have m2 : w1.cell? ((x.add o).add 2) = some (.int .u8 c) := by rw [add_add]; exact (hoth _).trans k2
  have m3 : w1.cell? ((x.add o).add 3) = some (.int .u8 d) := by rw [add_add]; exact (hoth _).trans k3
  clear hw1 hoth k0 k1 k2 k3 ht
  go_wp2_with (go_at_call 10; refine (be32 (x.add o) (cap - o) a b c d w1 ha hb hc hd m0 m1 m2 m3).mono ?_)
  rintro e w2 ⟨rfl, hb2⟩
  go_wp2
  go_ret2
  exact ⟨rfl, hr1.on hb2, hb1.trans (hb2.mono (Nat.le_of_lt hr1.lt))⟩

/-- What an early end leaves. -/
def ReadErr (w : World) (e : Ending) (w' : World) : Prop := (∃ N, e = .returned (.tuple #[.int .u32 0, .iface 46 (.pointer (some ⟨N, 0, none⟩))])) ∧ Below w.heap.size w w'

set_option maxRecDepth 100000 in
set_option maxHeartbeats 2000000 in
theorem uint32_err (F : Interp) (R len cap : Nat) (a : Option Addr) (o : Nat) (w : World) (hF : F.answers w.tape) (hr : Rd w R (.slice a len cap) o) (hl : len ≤ 1048576) (ho : len < o + 4) (ho2 : o ≤ len) :
    Calls Ybaf.prog 7 #[.pointer (some ⟨R, 0, none⟩)] w (ReadErr w) := by
  have ht := take_err F R len cap a o w hF hr.c0 hr.c1 hl ho ho2
  go_enter Ybaf.func7, Ybaf.ntmps7
  go_wp2_with (go_at_call 9; refine ht.mono ?_)
  rintro e w1 ⟨⟨N, rfl⟩, hb⟩
  go_wp2
  go_ret2
  exact ⟨⟨_, rfl⟩, hb⟩

/-- What length leaves where the word is within the limit. -/
def LenOk (w : World) (R : Nat) (v : Value) (o : Int) (n : Nat) (e : Ending) (w' : World) : Prop := e = .returned (.tuple #[.int .i64 n, .nilIface]) ∧ Rd w' R v (o + 4) ∧ Below R w w'
/-- What length leaves where it is not. -/
def LenBig (w : World) (R : Nat) (v : Value) (o : Int) (e : Ending) (w' : World) : Prop := (∃ N, e = .returned (.tuple #[.int .i64 0, .iface 46 (.pointer (some ⟨N, 0, none⟩))])) ∧ Rd w' R v (o + 4) ∧ Below R w w'
/-- What length leaves at an early end. -/
def LenErr (w : World) (e : Ending) (w' : World) : Prop := (∃ N, e = .returned (.tuple #[.int .i64 0, .iface 46 (.pointer (some ⟨N, 0, none⟩))])) ∧ Below w.heap.size w w'

set_option maxRecDepth 100000 in
set_option maxHeartbeats 2000000 in
theorem length_err (F : Interp) (R len cap : Nat) (a : Option Addr) (o : Nat) (mx : Int) (w : World) (hF : F.answers w.tape) (hr : Rd w R (.slice a len cap) o) (hl : len ≤ 1048576) (ho : len < o + 4) (ho2 : o ≤ len) :
    Calls Ybaf.prog 5 #[.pointer (some ⟨R, 0, none⟩), .int .i64 mx] w (LenErr w) := by
  have ht := uint32_err F R len cap a o w hF hr hl ho ho2
  go_enter Ybaf.func5, Ybaf.ntmps5
  go_wp2_with (go_at_call 7; refine ht.mono ?_)
  rintro e w1 ⟨⟨N, rfl⟩, hb⟩
  go_wp2
  go_ret2
  exact ⟨⟨_, rfl⟩, hb⟩

set_option maxRecDepth 100000 in
set_option maxHeartbeats 2000000 in
theorem length_in (R n : Nat) (v : Value) (o mx : Int) (w : World) (hn : n < 4294967296) (hm : (n : Int) ≤ mx % 4294967296) (ht : Calls Ybaf.prog 7 #[.pointer (some ⟨R, 0, none⟩)] w (ReadOk w R v o n)) :
    Calls Ybaf.prog 5 #[.pointer (some ⟨R, 0, none⟩), .int .i64 mx] w (LenOk w R v o n) := by
  have hm' : ¬ mx % 4294967296 < (n : Int) := by omega
  go_enter Ybaf.func5, Ybaf.ntmps5
  go_wp2_with (go_at_call 7; refine ht.mono ?_)
  rintro e w1 ⟨rfl, hr, hb⟩
  go_wp2
  go_ret2
  exact ⟨rfl, hr, hb⟩

set_option maxRecDepth 100000 in
set_option maxHeartbeats 2000000 in
theorem length_big (F : Interp) (R n : Nat) (v : Value) (o mx : Int) (w : World) (hF : F.answers w.tape) (hn : n < 4294967296) (hm : mx % 4294967296 < (n : Int)) (ht : Calls Ybaf.prog 7 #[.pointer (some ⟨R, 0, none⟩)] w (ReadOk w R v o n)) :
    Calls Ybaf.prog 5 #[.pointer (some ⟨R, 0, none⟩), .int .i64 mx] w (LenBig w R v o) := by
  go_enter Ybaf.func5, Ybaf.ntmps5
  go_wp2_with (go_at_call 7; refine ht.mono ?_)
  rintro e w1 ⟨rfl, hr, hb⟩
  have hF1 : F.answers w1.tape := by rw [hb.tape]; exact hF
  have hF' := answers_open hF1
  go_wp2
  go_ret2
  exact ⟨⟨_, rfl⟩, hr.on (bel2 (Below.refl _ _) _ _), hb.trans ((bel2 (Below.refl _ _) _ _).mono (Nat.le_of_lt hr.lt))⟩
end Go.Proofs.YbulkdduqFmt

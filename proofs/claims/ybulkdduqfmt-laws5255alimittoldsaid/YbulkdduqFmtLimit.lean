import Derived.Test.YbulkdduqFmtModel
import Derived.Maps.AppendAt
import Derived.OwnWalk
namespace Go.Proofs.YbulkdduqFmt
open Go.RowKit Go.Extern.Stop Go.Stop Go.Extern
set_option linter.unusedVariables false

theorem info5 : (Ybaf.prog.info? 5).map (fun i => (i.zero, i.size, i.bytes)) = some (some (.int .u8 0), 1, 1) := by kernel_rfl

/-- Four bytes laid. -/
def four (a b c d : Nat) : List Value := [.int .u8 a, .int .u8 b, .int .u8 c, .int .u8 d]

theorem four_new (w : World) (a b c d : Nat) (t : TypeId) : ∀ j u, (four a b c d)[j]? = some u → (w.alloc (.cells #[.int .u8 a, .int .u8 b, .int .u8 c, .int .u8 d] t)).cell? ((⟨w.heap.size, 0, none⟩ : Addr).add j) = some u := by
  intro j u hj
  match j, hj with
  | 0, hj => simp [four] at hj; subst hj; simp [Addr.add]
  | 1, hj => simp [four] at hj; subst hj; simp [Addr.add]
  | 2, hj => simp [four] at hj; subst hj; simp [Addr.add]
  | 3, hj => simp [four] at hj; subst hj; simp [Addr.add]
  | j + 4, hj => simp [four] at hj

/-- What AppendUint32(nil, v) leaves. -/
def Appended (w : World) (a b c d : Nat) (e : Ending) (w' : World) : Prop := ∃ g cap, e = .returned (.slice (some ⟨g, 0, none⟩) 4 cap) ∧ 4 ≤ cap ∧ (∀ j, j < 4 → w'.cell? ⟨g, j, none⟩ = some (.int .u8 (nth4 a b c d j))) ∧ Below w.heap.size w w'

set_option maxRecDepth 100000 in
set_option maxHeartbeats 2000000 in
theorem append_walk (v a b c d : Nat) (w : World) (hv : v < 4294967296) (ha : a = v / 16777216) (hb : b = v / 65536 % 256) (hc : c = v / 256 % 256) (hd : d = v % 256) :
    Calls Ybaf.prog 6 #[.agg #[], .slice none 0 0, .int .u32 v] w (Appended w a b c d) := by
  obtain ⟨i0, hi, hz0, hz1, hz2⟩ := info_parts info5
  have ea : (v : Int) / 16777216 % 256 = (a : Int) := by omega
  have ea2 : (v : Int) / 16777216 = (a : Int) := by omega
  have eb : (v : Int) / 65536 % 256 = (b : Int) := by omega
  have ec : (v : Int) / 256 % 256 = (c : Int) := by omega
  have ed : (v : Int) % 256 = (d : Int) := by omega
  have bv : (v : Int) < 4294967296 := by omega
  have ba : (a : Int) ≤ 255 := by omega
  clear ha hb hc hd
  go_enter Ybaf.func6, Ybaf.ntmps6
  go_wp2_with (at_builtin; refine wpList_append_own_at _ rfl _ _ 22 rfl (w.heap.size + 1) 5 i0 (.int .u8 0) 1 1 Ybaf.underlying22 hi hz0 hz1 hz2 rfl (by decide) (.slice none 0 0) 0 [] rfl (World.ownsRow_nil _ _ _ _) ⟨w.heap.size + 1, 0, none⟩ 4 4 (four a b c d) rfl rfl (by simpa using four_new (w.alloc (.cells #[] 34)) a b c d 5) (fun x hx => by simp [four] at hx; rcases hx with rfl | rfl | rfl | rfl <;> rfl) (by unfold maxLen; omega) (by omega) (by simp) ?_; intro v' w3 hown hgrow hnil hat)
  go_ret
  have hbel : Below w.heap.size w w3 := by
    refine Below.grown (((Below.refl w.heap.size w).alloc (Nat.le_refl _) (.cells #[] 34)).alloc (by simp) _) hgrow (by simp; omega) (fun k hk => ?_)
    simp [Value.ownBlock] at hk
  rcases hown.2 with ⟨_, h0⟩ | ⟨g, cap, cur, rfl, hg, hh, hn, hcap, hsz, htake⟩
  · omega
  refine ⟨g, cap, rfl, hn, fun j hj => ?_, hbel⟩
  have := World.ownsRow.cellAt hown j (by simpa using hj)
  rw [this]
  match j, hj with
  | 0, _ => rfl
  | 1, _ => rfl
  | 2, _ => rfl
  | 3, _ => rfl

set_option maxRecDepth 100000 in
set_option maxHeartbeats 2000000 in
theorem limit_core (F : Interp) (W : World) (v a b c d : Nat) (mx : Int) (hF : F.answers W.tape) (hv : v < 4294967296) (ha : a = v / 16777216) (hb : b = v / 65536 % 256) (hc : c = v / 256 % 256) (hd : d = v % 256) :
    Calls Ybaf.prog 4 #[.int .u32 v, .int .i64 mx] W fun e W' => e = .returned (.bool true) ∧ Below W.heap.size W W' := by
  have hap := append_walk v a b c d W hv ha hb hc hd
  have hword : word a b c d = v := by unfold word; omega
  have ha' : a ≤ 255 := by omega
  have hb' : b ≤ 255 := by omega
  have hc' : c ≤ 255 := by omega
  have hd' : d ≤ 255 := by omega
  clear ha hb hc hd
  go_enter Ybaf.func4, Ybaf.ntmps4
  go_wp2_with (go_at_call 6; refine hap.mono ?_)
  rintro e w1 ⟨g, cap, rfl, hcap, hcell, hb1⟩
  have hb0 := rdWorld_below w1 (.slice (some ⟨g, 0, none⟩) 4 cap) 0
  have hr0 := rdWorld_rd w1 (some ⟨g, 0, none⟩) 4 cap 0
  have hgl : g < w1.heap.size := block_lt_of_cell (hcell 0 (by omega))
  have hk : ∀ j, j < 4 → (rdWorld w1 (.slice (some ⟨g, 0, none⟩) 4 cap) 0).cell? ((⟨g, 0, none⟩ : Addr).add (0 + j)) = some (.int .u8 (nth4 a b c d j)) := fun j hj => by
    rw [hb0.cell (by rw [add_block]; exact hgl)]
    have e : (⟨g, 0, none⟩ : Addr).add (0 + j) = ⟨g, j, none⟩ := by
      unfold Addr.add
      split
      · rename_i h; simp at h; subst h; rfl
      · simp
    rw [e]
    exact hcell j hj
  have hu := uint32_ok w1.heap.size 4 cap ⟨g, 0, none⟩ 0 _ a b c d ha' hb' hc' hd' hr0 (by omega) (by omega) hcap (by show g ≠ _; omega) (hk 0 (by omega)) (hk 1 (by omega)) (hk 2 (by omega)) (hk 3 (by omega))
  rw [hword] at hu
  have hbW := hb1.trans (hb0.mono hb1.size)
  have hF1 : F.answers (rdWorld w1 (.slice (some ⟨g, 0, none⟩) 4 cap) 0).tape := by rw [hbW.tape]; exact hF
  clear hap hword hcell hk
  rcases Int.lt_or_le (mx % 4294967296) (v : Int) with hbig | hin
  · have hcall := length_big F w1.heap.size v _ _ mx _ hF1 hv hbig hu
    have hbig' : ¬ (v : Int) ≤ mx % 4294967296 := by omega
    go_wp2_with (go_at_call 5; refine hcall.mono ?_)
    rintro e w2 ⟨⟨N, rfl⟩, hr2, hb2⟩
    have hbE : Below W.heap.size W w2 := hbW.trans (hb2.mono hb1.size)
    obtain ⟨c0, c1, fr, hlt⟩ := hr2
    clear hcall hb0 hr0 hb2 hu hbW
    go_wp2_with fail
    go_ret
    exact ⟨rfl, hbE⟩
  · have hcall := length_in w1.heap.size v _ _ mx _ hv hin hu
    go_wp2_with (go_at_call 5; refine hcall.mono ?_)
    rintro e w2 ⟨rfl, hr2, hb2⟩
    have hbE : Below W.heap.size W w2 := hbW.trans (hb2.mono hb1.size)
    obtain ⟨c0, c1, fr, hlt⟩ := hr2
    clear hcall hb0 hr0 hb2 hu hbW
    go_wp2_with fail
    go_ret
    exact ⟨rfl, hbE⟩

theorem limit_walk (F : Interp) (W : World) (v mx : Int) (hF : F.answers W.tape) (w0 : (Lit.int .u32 v).wf = true) (w1 : (Lit.int .i64 mx).wf = true) :
    Calls Ybaf.prog 4 #[.int .u32 v, .int .i64 mx] W fun e W' => e = .returned (.bool true) ∧ Below W.heap.size W W' := by
  obtain ⟨h0, h1⟩ := bounds_u32 w0
  obtain ⟨n, rfl⟩ : ∃ n : Nat, v = (n : Int) := ⟨v.toNat, by omega⟩
  exact limit_core F W n _ _ _ _ mx hF (by omega) rfl rfl rfl rfl

theorem limitProved : Rows.LawS5255ALimitToldSaid := limit_card (fun os st H enc => liftL limit_walk os st H enc)

end Go.Proofs.YbulkdduqFmt

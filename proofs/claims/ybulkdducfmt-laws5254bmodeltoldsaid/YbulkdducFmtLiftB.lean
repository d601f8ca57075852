import Derived.Test.YbulkdducFmtLiftM
import Derived.Lib.ItoaMem
import Derived.ProofKit
import Derived.WalkKit
import Derived.OpenShut
import Derived.ShutString
import Derived.ChangeOld
import Derived.ChangeVars
import Derived.RowKitTokens
import Derived.Below
import Derived.SliceStrings
import Derived.SizedLaws
import Derived.Stop.JoinedAt
import Derived.Stop.JoinedTold
import Derived.Stop.LaidErr
import Derived.Lib.LaidTab
import Derived.Deep.DeepWitnessRef
namespace Go.Proofs.YbulkdducFmt
open Go.ChangeShapes Go.WideShapes Go.ChangeAt Go.RowKit
open Go.ChangeMaps (open_string shut_string)
open Go.Extern.Stop Go.Stop Go.Extern
set_option linter.unusedVariables false

theorem bmodel_card (h : ∀ os : Os, os.Started → ∀ (H : Type) (enc : TypeId × Value → H),
      ReturnsInTold none {} Ybaf.checked os 3 .any Input.okWide ((OpenSpec.ofChange Rows.lawS5254BModelSpec).preRow enc Ybaf.prog Ybaf.f3 Rows.lawS5254BModelRow.domain false Rows.lawS5254BModelRow.laid)
        (fun F => ((OpenSpec.ofChange Rows.lawS5254BModelSpec).at F).post enc Ybaf.prog Ybaf.f3 false true false false) (aloneAtReturn Ybaf.prog) nothingAlways) : Rows.LawS5254BModelToldSaid :=
  Claim7.holds_of_told_tied_any_at .later 3 Ybaf.f3 "fmt.errorf" [] [] _ _ _ _ _ (by kernel_rfl) rfl rfl rfl Ybaf.laidOut (by kernel_rfl) rfl ⟨rfl, rfl, rfl, rfl, rfl, rfl, rfl⟩ rfl rfl (by kernel_rfl) (by kernel_rfl) Ybaf.func3 (by kernel_rfl)
    (of_decide_eq_true (by kernel_rfl)) (of_decide_eq_true (by kernel_rfl)) Ybaf.stops.symm rfl Ybaf.stopKnobs.symm (by kernel_rfl)
    (by kernel_rfl) (by kernel_rfl) (by kernel_rfl) (by kernel_rfl) (by kernel_rfl) (by kernel_rfl) (by kernel_rfl) (by kernel_rfl) (by kernel_rfl) rfl (by kernel_rfl) rfl rfl
    rfl rfl
    rfl (by kernel_rfl) (by kernel_rfl) (by kernel_rfl) (by decide) (by kernel_rfl) lawS5254BModel_row_tie
    (OpenClaim.moreEntering_of (by kernel_rfl) (by kernel_rfl) (by kernel_rfl) (by kernel_rfl) (by kernel_rfl) (by kernel_rfl) (by kernel_rfl) (by kernel_rfl) (by kernel_rfl) (by kernel_rfl))
    ⟨_, WideRow.started_initial, Ybaf.quiet _⟩
    (fun os started _ H enc _ => h os started H enc)

set_option maxRecDepth 100000 in
theorem witB (os : Os) {H : Type} (enc : TypeId × Value → H) :
    (OpenSpec.ofChange Rows.lawS5254BModelSpec).preRow enc Ybaf.prog Ybaf.f3 Rows.lawS5254BModelRow.domain false Rows.lawS5254BModelRow.laid ((laidAt Ybaf.prog os).forCall (fun _ _ => 0) ⟨#[], #[.int .u16 0, .slice none 0 0], []⟩).memory #[.int .u16 0, .slice none 0 0] := by
  have hw : (DataW.whole enc Ybaf.prog ((laidAt Ybaf.prog os).forCall (fun _ _ => 0) ⟨#[], #[.int .u16 0, .slice none 0 0], []⟩).memory Ybaf.f3.params.toList (OpenSpec.ofChange Rows.lawS5254BModelSpec).vars false #[Value.int .u16 0, .slice none 0 0].toList 8).map (fun x => (x.1, x.2.1)) =
      some ([.lit (.int .u16 0), .nil], [.held (enc (82, .pointer (some ⟨(World.settled Ybaf.prog os).heap.size + 2, 0, none⟩)))]) := by kernel_rfl
  obtain ⟨⟨x1, x2, x3⟩, hx, hx1⟩ := Option.map_eq_some_iff.1 hw
  simp only [Prod.mk.injEq] at hx1
  obtain ⟨rfl, rfl⟩ := hx1
  exact OpenSpec.preRow_of_cond 8 hx (by kernel_rfl) (fun k hk => by cases hk) (by kernel_rfl) (laid_met os _)

set_option maxRecDepth 100000 in
theorem liftB (walk : ∀ (F : Interp) (W : World) (aR aS aF : Addr) (n : Int) (a : Option Addr) (len cap : Nat) (ss : List ByteArray), F.answers W.tape → Vars W aR aS aF → Lib.TabIs Ybaf.prog W powName .u64 Lib.pow10Tab → (Lit.int .u16 n).wf = true → IsStrs W a len cap ss →
      Calls Ybaf.prog 3 #[.int .u16 n, .slice a len cap] W fun e W' => e = .returned (.bool true) ∧ Below W.heap.size W W')
    (os : Os) (started : os.Started) (H : Type) (enc : TypeId × Value → H) :
    ReturnsInTold none {} Ybaf.checked os 3 .any Input.okWide ((OpenSpec.ofChange Rows.lawS5254BModelSpec).preRow enc Ybaf.prog Ybaf.f3 Rows.lawS5254BModelRow.domain false Rows.lawS5254BModelRow.laid)
        (fun F => ((OpenSpec.ofChange Rows.lawS5254BModelSpec).at F).post enc Ybaf.prog Ybaf.f3 false true false false) (aloneAtReturn Ybaf.prog) nothingAlways := by
  refine returnsInTold_of_row (C := Ybaf.checked) (s := OpenSpec.ofChange Rows.lawS5254BModelSpec) (by kernel_rfl) own started (by kernel_rfl) Ybaf.func3
    (OpenSpec.witness_stopped_atRef (enc := enc) (C := Ybaf.checked) false (laidAt Ybaf.prog os) #[.int .u16 0, .slice none 0 0] rfl (by kernel_rfl) (by kernel_rfl) (by kernel_rfl) (witB os enc)) ?_
  intro F W base args ds gs before _ hF hval0 hW hcnd0 _ hsz0 hL _
  have hval : ∀ (j : Nat) t v, Ybaf.f3.params[j]? = some t → args[j]? = some v → Value.okWide Ybaf.prog W .any base t v := hval0
  have hW' := hW
  obtain ⟨p, q, hA0, hV0, rfl, _, _⟩ := hW
  have hA : DataW.TrodAll enc Ybaf.prog W 0 (fun _ => true) true Ybaf.f3.params.toList args.toList ds p := hA0
  have hV : DataW.TrodVars enc Ybaf.prog W (fun _ => true) [formName] gs q := hV0
  rw [Ybaf.params3] at hA hval
  obtain ⟨v0, vs0, d0, ds0, p0, q0, hargs, rfl, rfl, h0, r0⟩ := trodAll_cons hA
  obtain ⟨v1, vs1, d1, ds1, p1, q1, rfl, rfl, rfl, h1, r1⟩ := trodAll_cons r0
  obtain ⟨rfl, rfl, rfl⟩ := trodAll_nil r1
  obtain rfl : args = #[v0, v1] := by cases args; simp_all
  obtain ⟨n, rfl, rfl, rfl, w0⟩ := open_int Ybaf.underlying22 (hval 0 22 v0 rfl rfl) h0
  obtain ⟨a0, len0, cap0, rfl⟩ := okWide_slice Ybaf.underlying23 (hval 1 23 v1 rfl rfl)
  have k0 := h1
  have lt0 : ∀ x ∈ p1, x.block < W.heap.size := by obtain ⟨m, hm⟩ := k0; exact DataW.trod_lt m _ _ _ hm
  have hL' : laidMet Ybaf.prog Rows.lawS5254BModelRow.laid W := hL
  have hT : Lib.TabIs Ybaf.prog W powName .u64 Lib.pow10Tab := Lib.tabIs_of_head (g := 1) (by kernel_rfl) (by kernel_rfl) Ybaf.underlying100 Ybaf.underlying86 (by kernel_rfl) (by kernel_rfl) hL'.tail.tail
  obtain ⟨aR, tR, hvR, hcR, _, _⟩ := laid_sentinel (g := 3) hL'.tail.tail.tail (by kernel_rfl) (by kernel_rfl) Ybaf.underlying35 row82 Ybaf.underlying82 Ybaf.underlying84 rfl rfl Ybaf.underlying9 (by kernel_rfl) (by kernel_rfl)
  obtain ⟨aS, tS, hvS, hcS, _, _⟩ := laid_sentinel (g := 2) hL'.tail.tail.tail.tail (by kernel_rfl) (by kernel_rfl) Ybaf.underlying35 row82 Ybaf.underlying82 Ybaf.underlying84 rfl rfl Ybaf.underlying9 (by kernel_rfl) (by kernel_rfl)
  obtain ⟨aF, tF, hvF, hcF, _, _⟩ := laid_sentinel (g := 0) hL'.tail.tail.tail.tail.tail (by kernel_rfl) (by kernel_rfl) Ybaf.underlying35 row82 Ybaf.underlying82 Ybaf.underlying84 rfl rfl Ybaf.underlying9 (by kernel_rfl) (by kernel_rfl)
  obtain ⟨g, t, cs, fuel, d, p', rfl, hg, ht, hvar, hd, rfl⟩ := trodVars_one hV
  obtain rfl := Option.some.inj (hvF.symm.trans hvar)
  obtain rfl : t = 35 := by
    have e : (Ybaf.prog.globals[g]?).map (·.type) = some 35 := by
      obtain rfl := Option.some.inj ((show Ybaf.prog.globalNamed formName = some 0 by kernel_rfl).symm.trans hg)
      kernel_rfl
    exact Option.some.inj (ht.symm.trans e)
  obtain ⟨old, hcs, ho, hx⟩ := held_of_trod_list Ybaf.underlying35 hd
  simp only [Prod.mk.injEq] at hx
  obtain ⟨rfl, rfl⟩ := hx
  have hold : old = .iface 82 (.pointer (some aF)) := by simpa using hcs.symm
  subst hold
  obtain ⟨ss, wS⟩ : ∃ ss, IsStrs W a0 len0 cap0 ss := by
    obtain ⟨f0, hf⟩ := h1
    rcases open_strings Ybaf.underlying23 Ybaf.underlying9 (by kernel_rfl) hf with ⟨hcs', _⟩ | ⟨x, l, c, ss, hcs', _, hl, hm, hz, hxx, hcell, hwz⟩
    · simp [Value.cells] at hcs'
      obtain ⟨rfl, rfl, rfl⟩ := hcs'
      exact ⟨[], .inl ⟨rfl, rfl, rfl, rfl⟩⟩
    · simp [Value.cells] at hcs'
      obtain ⟨rfl, rfl, rfl⟩ := hcs'
      simp only [Prod.mk.injEq] at hxx
      obtain ⟨rfl, rfl⟩ := hxx
      refine ⟨ss, .inr ⟨_, rfl, hl, hm, by simpa using hz, hcell, fun y hy => ?_⟩⟩
      exact sized_elem hsz0 (j := 1) (t := 23) (e := 9) (by rw [Ybaf.params3]; rfl) rfl Ybaf.underlying23 hy
  clear hA0 hV0 hval0
  refine (walk F.told W aR aS aF n a0 len0 cap0 ss hF ⟨hvR, hvS, hvF, block_lt_of_cell hcF, _, hcF⟩ hT w0 wS).mono fun e W' ⟨he, bel⟩ => ?_
  subst he
  have hvars := trodVars_mk1 (enc := enc) (spare := fun b => decide (b < W.heap.size)) (fuel := 1) (d := tok enc (.iface 82 (.pointer (some aF)))) (p := []) hg ht (var_below bel hvF) (trod_held Ybaf.underlying35 ho 0)
  refine ⟨_, rfl, _, _, _, [], _, _, hW', trodAll_mk1 (shut_bool Ybaf.underlying4 _), (trodAll_cons_mk (shut_int Ybaf.underlying22 w0) (trodAll_cons_mk (Below.trod Ybaf.laidOut (by kernel_rfl) (of_decide_eq_true (by kernel_rfl)) k0 bel lt0) trodAll_mk0)), hvars, bel.frame _, fun h => by cases h⟩

end Go.Proofs.YbulkdducFmt

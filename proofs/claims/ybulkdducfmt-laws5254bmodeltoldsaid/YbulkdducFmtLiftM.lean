import Derived.Test.YbulkdducFmtLiftC
import Derived.Lib.ItoaMem
import Derived.ProofKit
import Derived.WalkKit
import Derived.OpenShut
import Derived.ShutString
import Derived.ChangeOld
import Derived.ChangeVars
import Derived.RowKitTokens
import Derived.Below
import Derived.SliceStrings
import Derived.SizedLaws
import Derived.Stop.JoinedAt
import Derived.Stop.JoinedTold
import Derived.Stop.LaidErr
import Derived.Lib.LaidTab
import Derived.Deep.DeepWitnessRef
namespace Go.Proofs.YbulkdducFmt
open Go.ChangeShapes Go.WideShapes Go.ChangeAt Go.RowKit
open Go.ChangeMaps (open_string shut_string)
open Go.Extern.Stop Go.Stop Go.Extern
set_option linter.unusedVariables false

/-- The table's name, off the row. -/
abbrev powName : String := (Rows.lawS5254CModelRow.laid.getD 2 ("", .nil)).1

theorem bnamed_card (h : ∀ os : Os, os.Started → ∀ (H : Type) (enc : TypeId × Value → H),
      ReturnsInTold none {} Ybaf.checked os 4 .any Input.okWide ((OpenSpec.ofChange Rows.lawS5254BNamedSpec).preRow enc Ybaf.prog Ybaf.f4 Rows.lawS5254BNamedRow.domain false Rows.lawS5254BNamedRow.laid)
        (fun F => ((OpenSpec.ofChange Rows.lawS5254BNamedSpec).at F).post enc Ybaf.prog Ybaf.f4 false true false false) (aloneAtReturn Ybaf.prog) nothingAlways) : Rows.LawS5254BNamedToldSaid :=
  Claim7.holds_of_told_tied_any_at .later 4 Ybaf.f4 "fmt.errorf" [] [] _ _ _ _ _ (by kernel_rfl) rfl rfl rfl Ybaf.laidOut (by kernel_rfl) rfl ⟨rfl, rfl, rfl, rfl, rfl, rfl, rfl⟩ rfl rfl (by kernel_rfl) (by kernel_rfl) Ybaf.func4 (by kernel_rfl)
    (of_decide_eq_true (by kernel_rfl)) (of_decide_eq_true (by kernel_rfl)) Ybaf.stops.symm rfl Ybaf.stopKnobs.symm (by kernel_rfl)
    (by kernel_rfl) (by kernel_rfl) (by kernel_rfl) (by kernel_rfl) (by kernel_rfl) (by kernel_rfl) (by kernel_rfl) (by kernel_rfl) (by kernel_rfl) rfl (by kernel_rfl) rfl rfl
    rfl rfl
    rfl (by kernel_rfl) (by kernel_rfl) (by kernel_rfl) (by decide) (by kernel_rfl) lawS5254BNamed_row_tie
    (OpenClaim.moreEntering_of (by kernel_rfl) (by kernel_rfl) (by kernel_rfl) (by kernel_rfl) (by kernel_rfl) (by kernel_rfl) (by kernel_rfl) (by kernel_rfl) (by kernel_rfl) (by kernel_rfl))
    ⟨_, WideRow.started_initial, Ybaf.quiet _⟩
    (fun os started _ H enc _ => h os started H enc)

set_option maxRecDepth 100000 in
theorem witM (os : Os) {H : Type} (enc : TypeId × Value → H) :
    (OpenSpec.ofChange Rows.lawS5254BNamedSpec).preRow enc Ybaf.prog Ybaf.f4 Rows.lawS5254BNamedRow.domain false Rows.lawS5254BNamedRow.laid ((laidAt Ybaf.prog os).forCall (fun _ _ => 0) ⟨#[], #[.int .u16 0, .int .u16 0, .int .u16 0], []⟩).memory #[.int .u16 0, .int .u16 0, .int .u16 0] := by
  have hw : (DataW.whole enc Ybaf.prog ((laidAt Ybaf.prog os).forCall (fun _ _ => 0) ⟨#[], #[.int .u16 0, .int .u16 0, .int .u16 0], []⟩).memory Ybaf.f4.params.toList (OpenSpec.ofChange Rows.lawS5254BNamedSpec).vars false #[Value.int .u16 0, .int .u16 0, .int .u16 0].toList 8).map (fun x => (x.1, x.2.1)) =
      some ([.lit (.int .u16 0), .lit (.int .u16 0), .lit (.int .u16 0)], [.held (enc (82, .pointer (some ⟨(World.settled Ybaf.prog os).heap.size + 2, 0, none⟩)))]) := by kernel_rfl
  obtain ⟨⟨x1, x2, x3⟩, hx, hx1⟩ := Option.map_eq_some_iff.1 hw
  simp only [Prod.mk.injEq] at hx1
  obtain ⟨rfl, rfl⟩ := hx1
  exact OpenSpec.preRow_of_cond 8 hx (by kernel_rfl) (fun k hk => by cases hk) (by kernel_rfl) (laid_met os _)

set_option maxRecDepth 100000 in
theorem liftM (walk : ∀ (F : Interp) (W : World) (aR aS aF : Addr) (n i j : Int), F.answers W.tape → Vars W aR aS aF → Lib.TabIs Ybaf.prog W powName .u64 Lib.pow10Tab → (Lit.int .u16 n).wf = true → (Lit.int .u16 i).wf = true → (Lit.int .u16 j).wf = true →
      Calls Ybaf.prog 4 #[.int .u16 n, .int .u16 i, .int .u16 j] W fun e W' => e = .returned (.bool true) ∧ Below W.heap.size W W')
    (os : Os) (started : os.Started) (H : Type) (enc : TypeId × Value → H) :
    ReturnsInTold none {} Ybaf.checked os 4 .any Input.okWide ((OpenSpec.ofChange Rows.lawS5254BNamedSpec).preRow enc Ybaf.prog Ybaf.f4 Rows.lawS5254BNamedRow.domain false Rows.lawS5254BNamedRow.laid)
        (fun F => ((OpenSpec.ofChange Rows.lawS5254BNamedSpec).at F).post enc Ybaf.prog Ybaf.f4 false true false false) (aloneAtReturn Ybaf.prog) nothingAlways := by
  refine returnsInTold_of_row (C := Ybaf.checked) (s := OpenSpec.ofChange Rows.lawS5254BNamedSpec) (by kernel_rfl) own started (by kernel_rfl) Ybaf.func4
    (OpenSpec.witness_stopped_atRef (enc := enc) (C := Ybaf.checked) false (laidAt Ybaf.prog os) #[.int .u16 0, .int .u16 0, .int .u16 0] rfl (by kernel_rfl) (by kernel_rfl) (by kernel_rfl) (witM os enc)) ?_
  intro F W base args ds gs before _ hF hval0 hW hcnd0 _ hsz0 hL _
  have hval : ∀ (j : Nat) t v, Ybaf.f4.params[j]? = some t → args[j]? = some v → Value.okWide Ybaf.prog W .any base t v := hval0
  have hW' := hW
  obtain ⟨p, q, hA0, hV0, rfl, _, _⟩ := hW
  have hA : DataW.TrodAll enc Ybaf.prog W 0 (fun _ => true) true Ybaf.f4.params.toList args.toList ds p := hA0
  have hV : DataW.TrodVars enc Ybaf.prog W (fun _ => true) [formName] gs q := hV0
  rw [Ybaf.params4] at hA hval
  obtain ⟨v0, vs0, d0, ds0, p0, q0, hargs, rfl, rfl, h0, r0⟩ := trodAll_cons hA
  obtain ⟨v1, vs1, d1, ds1, p1, q1, rfl, rfl, rfl, h1, r1⟩ := trodAll_cons r0
  obtain ⟨v2, vs2, d2, ds2, p2, q2, rfl, rfl, rfl, h2, r2⟩ := trodAll_cons r1
  obtain ⟨rfl, rfl, rfl⟩ := trodAll_nil r2
  obtain rfl : args = #[v0, v1, v2] := by cases args; simp_all
  obtain ⟨n, rfl, rfl, rfl, w0⟩ := open_int Ybaf.underlying22 (hval 0 22 v0 rfl rfl) h0
  obtain ⟨i, rfl, rfl, rfl, w1⟩ := open_int Ybaf.underlying22 (hval 1 22 v1 rfl rfl) h1
  obtain ⟨j, rfl, rfl, rfl, w2⟩ := open_int Ybaf.underlying22 (hval 2 22 v2 rfl rfl) h2
  have hL' : laidMet Ybaf.prog Rows.lawS5254BNamedRow.laid W := hL
  have hT : Lib.TabIs Ybaf.prog W powName .u64 Lib.pow10Tab := Lib.tabIs_of_head (g := 1) (by kernel_rfl) (by kernel_rfl) Ybaf.underlying100 Ybaf.underlying86 (by kernel_rfl) (by kernel_rfl) hL'.tail.tail
  obtain ⟨aR, tR, hvR, hcR, _, _⟩ := laid_sentinel (g := 3) hL'.tail.tail.tail (by kernel_rfl) (by kernel_rfl) Ybaf.underlying35 row82 Ybaf.underlying82 Ybaf.underlying84 rfl rfl Ybaf.underlying9 (by kernel_rfl) (by kernel_rfl)
  obtain ⟨aS, tS, hvS, hcS, _, _⟩ := laid_sentinel (g := 2) hL'.tail.tail.tail.tail (by kernel_rfl) (by kernel_rfl) Ybaf.underlying35 row82 Ybaf.underlying82 Ybaf.underlying84 rfl rfl Ybaf.underlying9 (by kernel_rfl) (by kernel_rfl)
  obtain ⟨aF, tF, hvF, hcF, _, _⟩ := laid_sentinel (g := 0) hL'.tail.tail.tail.tail.tail (by kernel_rfl) (by kernel_rfl) Ybaf.underlying35 row82 Ybaf.underlying82 Ybaf.underlying84 rfl rfl Ybaf.underlying9 (by kernel_rfl) (by kernel_rfl)
  obtain ⟨g, t, cs, fuel, d, p', rfl, hg, ht, hvar, hd, rfl⟩ := trodVars_one hV
  obtain rfl := Option.some.inj (hvF.symm.trans hvar)
  obtain rfl : t = 35 := by
    have e : (Ybaf.prog.globals[g]?).map (·.type) = some 35 := by
      obtain rfl := Option.some.inj ((show Ybaf.prog.globalNamed formName = some 0 by kernel_rfl).symm.trans hg)
      kernel_rfl
    exact Option.some.inj (ht.symm.trans e)
  obtain ⟨old, hcs, ho, hx⟩ := held_of_trod_list Ybaf.underlying35 hd
  simp only [Prod.mk.injEq] at hx
  obtain ⟨rfl, rfl⟩ := hx
  have hold : old = .iface 82 (.pointer (some aF)) := by simpa using hcs.symm
  subst hold
  clear hA0 hV0 hval0
  refine (walk F.told W aR aS aF n i j hF ⟨hvR, hvS, hvF, block_lt_of_cell hcF, _, hcF⟩ hT w0 w1 w2).mono fun e W' ⟨he, bel⟩ => ?_
  subst he
  have hvars := trodVars_mk1 (enc := enc) (spare := fun b => decide (b < W.heap.size)) (fuel := 1) (d := tok enc (.iface 82 (.pointer (some aF)))) (p := []) hg ht (var_below bel hvF) (trod_held Ybaf.underlying35 ho 0)
  refine ⟨_, rfl, _, _, _, [], _, _, hW', trodAll_mk1 (shut_bool Ybaf.underlying4 _), (trodAll_cons_mk (shut_int Ybaf.underlying22 w0) (trodAll_cons_mk (shut_int Ybaf.underlying22 w1) (trodAll_cons_mk (shut_int Ybaf.underlying22 w2) trodAll_mk0))), hvars, bel.frame _, fun h => by cases h⟩

end Go.Proofs.YbulkdducFmt

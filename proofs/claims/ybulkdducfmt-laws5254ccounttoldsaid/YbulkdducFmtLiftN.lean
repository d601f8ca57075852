import Derived.Test.YbulkdducFmtLiftC
import Derived.ProofKit
import Derived.WalkKit
import Derived.OpenShut
import Derived.ShutString
import Derived.ChangeOld
import Derived.ChangeVars
import Derived.RowKitTokens
import Derived.Below
import Derived.SliceStrings
import Derived.SizedLaws
import Derived.Stop.JoinedAt
import Derived.Stop.JoinedTold
import Derived.Stop.LaidErr
import Derived.Lib.LaidTab
import Derived.Deep.DeepWitnessRef
namespace Go.Proofs.YbulkdducFmt
open Go.ChangeShapes Go.WideShapes Go.ChangeAt Go.RowKit
open Go.ChangeMaps (open_string shut_string)
open Go.Extern.Stop Go.Stop Go.Extern
set_option linter.unusedVariables false

theorem ccount_card (h : ∀ os : Os, os.Started → ∀ (H : Type) (enc : TypeId × Value → H),
      ReturnsInTold none {} Ybaf.checked os 6 .any Input.okWide ((OpenSpec.ofChange Rows.lawS5254CCountSpec).preRow enc Ybaf.prog Ybaf.f6 Rows.lawS5254CCountRow.domain false Rows.lawS5254CCountRow.laid)
        (fun F => ((OpenSpec.ofChange Rows.lawS5254CCountSpec).at F).post enc Ybaf.prog Ybaf.f6 false true false false) (aloneAtReturn Ybaf.prog) nothingAlways) : Rows.LawS5254CCountToldSaid :=
  Claim7.holds_of_told_tied_any_at .later 6 Ybaf.f6 "fmt.errorf" [] [] _ _ _ _ _ (by kernel_rfl) rfl rfl rfl Ybaf.laidOut (by kernel_rfl) rfl ⟨rfl, rfl, rfl, rfl, rfl, rfl, rfl⟩ rfl rfl (by kernel_rfl) (by kernel_rfl) Ybaf.func6 (by kernel_rfl)
    (of_decide_eq_true (by kernel_rfl)) (of_decide_eq_true (by kernel_rfl)) Ybaf.stops.symm rfl Ybaf.stopKnobs.symm (by kernel_rfl)
    (by kernel_rfl) (by kernel_rfl) (by kernel_rfl) (by kernel_rfl) (by kernel_rfl) (by kernel_rfl) (by kernel_rfl) (by kernel_rfl) (by kernel_rfl) rfl (by kernel_rfl) rfl rfl
    rfl rfl
    rfl (by kernel_rfl) (by kernel_rfl) (by kernel_rfl) (by decide) (by kernel_rfl) lawS5254CCount_row_tie
    (OpenClaim.moreEntering_of (by kernel_rfl) (by kernel_rfl) (by kernel_rfl) (by kernel_rfl) (by kernel_rfl) (by kernel_rfl) (by kernel_rfl) (by kernel_rfl) (by kernel_rfl) (by kernel_rfl))
    ⟨_, WideRow.started_initial, Ybaf.quiet _⟩
    (fun os started _ H enc _ => h os started H enc)

set_option maxRecDepth 100000 in
theorem witN (os : Os) {H : Type} (enc : TypeId × Value → H) :
    (OpenSpec.ofChange Rows.lawS5254CCountSpec).preRow enc Ybaf.prog Ybaf.f6 Rows.lawS5254CCountRow.domain false Rows.lawS5254CCountRow.laid ((laidAt Ybaf.prog os).forCall (fun _ _ => 0) ⟨#[], #[.int .u32 0, .int .u8 0, .bool false, .int .u8 0, .int .i64 0], []⟩).memory #[.int .u32 0, .int .u8 0, .bool false, .int .u8 0, .int .i64 0] := by
  have hw : (DataW.whole enc Ybaf.prog ((laidAt Ybaf.prog os).forCall (fun _ _ => 0) ⟨#[], #[.int .u32 0, .int .u8 0, .bool false, .int .u8 0, .int .i64 0], []⟩).memory Ybaf.f6.params.toList (OpenSpec.ofChange Rows.lawS5254CCountSpec).vars false #[Value.int .u32 0, .int .u8 0, .bool false, .int .u8 0, .int .i64 0].toList 8).map (fun x => (x.1, x.2.1)) =
      some ([.lit (.int .u32 0), .lit (.int .u8 0), .lit (.bool false), .lit (.int .u8 0), .lit (.int .i64 0)], [.held (enc (82, .pointer (some ⟨(World.settled Ybaf.prog os).heap.size + 2, 0, none⟩)))]) := by kernel_rfl
  obtain ⟨⟨x1, x2, x3⟩, hx, hx1⟩ := Option.map_eq_some_iff.1 hw
  simp only [Prod.mk.injEq] at hx1
  obtain ⟨rfl, rfl⟩ := hx1
  exact OpenSpec.preRow_of_cond 8 hx (by kernel_rfl) (fun k hk => by cases hk) (by kernel_rfl) (laid_met os _)

set_option maxRecDepth 100000 in
theorem liftN (walk : ∀ (F : Interp) (W : World) (aR aS aF : Addr) (n z : Int) (pl : Bool) (pr ln : Int), F.answers W.tape → Vars W aR aS aF → (Lit.int .u32 n).wf = true → (Lit.int .u8 z).wf = true → (Lit.int .u8 pr).wf = true → (Lit.int .i64 ln).wf = true →
      Calls Ybaf.prog 6 #[.int .u32 n, .int .u8 z, .bool pl, .int .u8 pr, .int .i64 ln] W fun e W' => e = .returned (.bool true) ∧ Below W.heap.size W W')
    (os : Os) (started : os.Started) (H : Type) (enc : TypeId × Value → H) :
    ReturnsInTold none {} Ybaf.checked os 6 .any Input.okWide ((OpenSpec.ofChange Rows.lawS5254CCountSpec).preRow enc Ybaf.prog Ybaf.f6 Rows.lawS5254CCountRow.domain false Rows.lawS5254CCountRow.laid)
        (fun F => ((OpenSpec.ofChange Rows.lawS5254CCountSpec).at F).post enc Ybaf.prog Ybaf.f6 false true false false) (aloneAtReturn Ybaf.prog) nothingAlways := by
  refine returnsInTold_of_row (C := Ybaf.checked) (s := OpenSpec.ofChange Rows.lawS5254CCountSpec) (by kernel_rfl) own started (by kernel_rfl) Ybaf.func6
    (OpenSpec.witness_stopped_atRef (enc := enc) (C := Ybaf.checked) false (laidAt Ybaf.prog os) #[.int .u32 0, .int .u8 0, .bool false, .int .u8 0, .int .i64 0] rfl (by kernel_rfl) (by kernel_rfl) (by kernel_rfl) (witN os enc)) ?_
  intro F W base args ds gs before _ hF hval0 hW hcnd0 _ hsz0 hL _
  have hval : ∀ (j : Nat) t v, Ybaf.f6.params[j]? = some t → args[j]? = some v → Value.okWide Ybaf.prog W .any base t v := hval0
  have hW' := hW
  obtain ⟨p, q, hA0, hV0, rfl, _, _⟩ := hW
  have hA : DataW.TrodAll enc Ybaf.prog W 0 (fun _ => true) true Ybaf.f6.params.toList args.toList ds p := hA0
  have hV : DataW.TrodVars enc Ybaf.prog W (fun _ => true) [formName] gs q := hV0
  rw [Ybaf.params6] at hA hval
  obtain ⟨v0, vs0, d0, ds0, p0, q0, hargs, rfl, rfl, h0, r0⟩ := trodAll_cons hA
  obtain ⟨v1, vs1, d1, ds1, p1, q1, rfl, rfl, rfl, h1, r1⟩ := trodAll_cons r0
  obtain ⟨v2, vs2, d2, ds2, p2, q2, rfl, rfl, rfl, h2, r2⟩ := trodAll_cons r1
  obtain ⟨v3, vs3, d3, ds3, p3, q3, rfl, rfl, rfl, h3, r3⟩ := trodAll_cons r2
  obtain ⟨v4, vs4, d4, ds4, p4, q4, rfl, rfl, rfl, h4, r4⟩ := trodAll_cons r3
  obtain ⟨rfl, rfl, rfl⟩ := trodAll_nil r4
  obtain rfl : args = #[v0, v1, v2, v3, v4] := by cases args; simp_all
  obtain ⟨n, rfl, rfl, rfl, w0⟩ := open_int Ybaf.underlying49 (hval 0 49 v0 rfl rfl) h0
  obtain ⟨z, rfl, rfl, rfl, w1⟩ := open_int Ybaf.underlying5 (hval 1 5 v1 rfl rfl) h1
  obtain ⟨pl, rfl, rfl, rfl⟩ := open_bool Ybaf.underlying4 (hval 2 4 v2 rfl rfl) h2
  obtain ⟨pr, rfl, rfl, rfl, w3⟩ := open_int Ybaf.underlying5 (hval 3 5 v3 rfl rfl) h3
  obtain ⟨ln, rfl, rfl, rfl, w4⟩ := open_int Ybaf.underlying3 (hval 4 3 v4 rfl rfl) h4
  have hL' : laidMet Ybaf.prog Rows.lawS5254CCountRow.laid W := hL
  obtain ⟨aR, tR, hvR, hcR, _, _⟩ := laid_sentinel (g := 3) hL'.tail.tail.tail (by kernel_rfl) (by kernel_rfl) Ybaf.underlying35 row82 Ybaf.underlying82 Ybaf.underlying84 rfl rfl Ybaf.underlying9 (by kernel_rfl) (by kernel_rfl)
  obtain ⟨aS, tS, hvS, hcS, _, _⟩ := laid_sentinel (g := 2) hL'.tail.tail.tail.tail (by kernel_rfl) (by kernel_rfl) Ybaf.underlying35 row82 Ybaf.underlying82 Ybaf.underlying84 rfl rfl Ybaf.underlying9 (by kernel_rfl) (by kernel_rfl)
  obtain ⟨aF, tF, hvF, hcF, _, _⟩ := laid_sentinel (g := 0) hL'.tail.tail.tail.tail.tail (by kernel_rfl) (by kernel_rfl) Ybaf.underlying35 row82 Ybaf.underlying82 Ybaf.underlying84 rfl rfl Ybaf.underlying9 (by kernel_rfl) (by kernel_rfl)
  obtain ⟨g, t, cs, fuel, d, p', rfl, hg, ht, hvar, hd, rfl⟩ := trodVars_one hV
  obtain rfl := Option.some.inj (hvF.symm.trans hvar)
  obtain rfl : t = 35 := by
    have e : (Ybaf.prog.globals[g]?).map (·.type) = some 35 := by
      obtain rfl := Option.some.inj ((show Ybaf.prog.globalNamed formName = some 0 by kernel_rfl).symm.trans hg)
      kernel_rfl
    exact Option.some.inj (ht.symm.trans e)
  obtain ⟨old, hcs, ho, hx⟩ := held_of_trod_list Ybaf.underlying35 hd
  simp only [Prod.mk.injEq] at hx
  obtain ⟨rfl, rfl⟩ := hx
  have hold : old = .iface 82 (.pointer (some aF)) := by simpa using hcs.symm
  subst hold
  clear hA0 hV0 hval0
  refine (walk F.told W aR aS aF n z pl pr ln hF ⟨hvR, hvS, hvF, block_lt_of_cell hcF, _, hcF⟩ w0 w1 w3 w4).mono fun e W' ⟨he, bel⟩ => ?_
  subst he
  have hvars := trodVars_mk1 (enc := enc) (spare := fun b => decide (b < W.heap.size)) (fuel := 1) (d := tok enc (.iface 82 (.pointer (some aF)))) (p := []) hg ht (var_below bel hvF) (trod_held Ybaf.underlying35 ho 0)
  refine ⟨_, rfl, _, _, _, [], _, _, hW', trodAll_mk1 (shut_bool Ybaf.underlying4 _), (trodAll_cons_mk (shut_int Ybaf.underlying49 w0) (trodAll_cons_mk (shut_int Ybaf.underlying5 w1) (trodAll_cons_mk (shut_bool Ybaf.underlying4 _) (trodAll_cons_mk (shut_int Ybaf.underlying5 w3) (trodAll_cons_mk (shut_int Ybaf.underlying3 w4) trodAll_mk0))))), hvars, bel.frame _, fun h => by cases h⟩

end Go.Proofs.YbulkdducFmt

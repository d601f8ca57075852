import Derived.Test.YbulkdducFmtWitC
import Derived.Test.YbulkdducFmtCardC
import Derived.ProofKit
import Derived.WalkKit
import Derived.OpenShut
import Derived.ShutString
import Derived.ChangeOld
import Derived.ChangeVars
import Derived.RowKitTokens
import Derived.Below
import Derived.SliceStrings
import Derived.SizedLaws
import Derived.Stop.JoinedAt
import Derived.Stop.JoinedTold
import Derived.Stop.LaidErr
import Derived.Lib.LaidTab
import Derived.Deep.DeepWitnessRef
namespace Go.Proofs.YbulkdducFmt
open Go.ChangeShapes Go.WideShapes Go.ChangeAt Go.RowKit
open Go.ChangeMaps (open_string shut_string)
open Go.Extern.Stop Go.Stop Go.Extern
set_option linter.unusedVariables false

theorem own : ownKnob Ybaf.prog.godebug = none := by kernel_rfl
/-- The variable's name, off the row. -/
abbrev formName : String := Rows.lawS5254CModelSpec.vars.headD ""
theorem row82 (u : TypeId) (h : Ybaf.prog.typeName? 3 u = some (String.singleton (Char.ofNat 42) ++ "errors.errorString")) : u = 82 :=
  typeName_ptr_named (nm := "errors.errorString") (by kernel_rfl) (by kernel_rfl) (by decide) u h

theorem var_below {P : Program} {W W' : World} {n : String} {cs : Array Value} (h : Below W.heap.size W W') (hv : W.var? P n = some cs) : W'.var? P n = some cs := by
  unfold World.var? at *
  cases hg : P.globalNamed n with
  | none => rw [hg] at hv; simp at hv
  | some g =>
    rw [hg] at hv
    simp only [Option.bind_some] at hv ⊢
    have hlt : g < W.heap.size := by
      rcases Nat.lt_or_ge g W.heap.size with h1 | h1
      · exact h1
      · rw [Array.getElem?_eq_none h1] at hv; simp at hv
    rw [h.block g hlt]
    exact hv

theorem mem_weightsAll {H : Type} {P : Program} {e : TypeId} {ss : List ByteArray} {x : ByteArray} (hx : x ∈ ss) : x.data.toList.length ∈ DataW.weightsAll (H := H) P e (strs ss) := by
  induction ss with
  | nil => cases hx
  | cons y r ih =>
    simp only [strs, List.map_cons, DataW.weightsAll, List.mem_append]
    rcases List.mem_cons.1 hx with rfl | h
    · left; simp [DataW.weights]
    · right; exact ih h

theorem sized_elem {H : Type} {P : Program} {ts : List TypeId} {ds : List (DataW H)} (h : (DataW.weightsEach P ts ds).all (· ≤ reachBytes) = true) {j : Nat} {t e : TypeId} {ss rs : List ByteArray} (ht : ts[j]? = some t) (hd : ds[j]? = some (.slice (strs ss) (strs rs))) (hu : P.underlying t = some (.slice e)) {x : ByteArray} (hx : x ∈ ss) : x.size ≤ reachBytes := by
  have := List.all_eq_true.1 h _ (DataW.weights_mem_each ht hd x.data.toList.length (by
    simp only [DataW.weights, hu]
    exact List.mem_cons_of_mem _ (List.mem_append_left _ (mem_weightsAll hx))))
  have h2 : x.data.toList.length = x.size := rfl
  rw [← h2]
  simpa using this

/-- What the walk is told of a slice of strings. -/
def IsStrs (w : World) (a : Option Addr) (len cap : Nat) (ss : List ByteArray) : Prop :=
  (a = none ∧ len = 0 ∧ cap = 0 ∧ ss = []) ∨
  ∃ x, a = some x ∧ len ≤ cap ∧ cap ≤ maxLen ∧ ss.length = cap ∧ (∀ i, i < ss.length → w.cell? (x.add i) = some (.string (ss.getD i ByteArray.empty))) ∧ ∀ s ∈ ss.take len, s.size ≤ reachBytes

/-- What the walk is told of the listed variables. -/
structure Vars (W : World) (aR aS aF : Addr) : Prop where
  range : W.var? Ybaf.prog "strconv.ErrRange" = some #[.iface 82 (.pointer (some aR))]
  syn : W.var? Ybaf.prog "strconv.ErrSyntax" = some #[.iface 82 (.pointer (some aS))]
  form : W.var? Ybaf.prog formName = some #[.iface 82 (.pointer (some aF))]
  lt : aF.block < W.heap.size
  cell : ∃ s, W.cell? aF = some (.string s)

set_option maxRecDepth 100000 in
theorem liftC (walk : ∀ (F : Interp) (W : World) (aR aS aF : Addr) (a : Option Addr) (len cap : Nat) (ss : List ByteArray) (pr ln ml : Int), F.answers W.tape → Vars W aR aS aF → IsStrs W a len cap ss → (Lit.int .i64 pr).wf = true → (Lit.int .i64 ln).wf = true → (Lit.int .i64 ml).wf = true →
      Calls Ybaf.prog 5 #[.slice a len cap, .int .i64 pr, .int .i64 ln, .int .i64 ml] W fun e W' => e = .returned (.bool true) ∧ Below W.heap.size W W')
    (os : Os) (started : os.Started) (H : Type) (enc : TypeId × Value → H) :
    ReturnsInTold none {} Ybaf.checked os 5 .any Input.okWide ((OpenSpec.ofChange Rows.lawS5254CModelSpec).preRow enc Ybaf.prog Ybaf.f5 Rows.lawS5254CModelRow.domain false Rows.lawS5254CModelRow.laid)
        (fun F => ((OpenSpec.ofChange Rows.lawS5254CModelSpec).at F).post enc Ybaf.prog Ybaf.f5 false true false false) (aloneAtReturn Ybaf.prog) nothingAlways := by
  refine returnsInTold_of_row (C := Ybaf.checked) (s := OpenSpec.ofChange Rows.lawS5254CModelSpec) (by kernel_rfl) own started (by kernel_rfl) Ybaf.func5
    (OpenSpec.witness_stopped_atRef (enc := enc) (C := Ybaf.checked) false (laidAt Ybaf.prog os) #[.slice none 0 0, .int .i64 0, .int .i64 0, .int .i64 0] rfl (by kernel_rfl) (by kernel_rfl) (by kernel_rfl) (witC os enc)) ?_
  intro F W base args ds gs before _ hF hval0 hW hcnd0 _ hsz0 hL _
  have hval : ∀ (j : Nat) t v, Ybaf.f5.params[j]? = some t → args[j]? = some v → Value.okWide Ybaf.prog W .any base t v := hval0
  have hW' := hW
  obtain ⟨p, q, hA0, hV0, rfl, _, _⟩ := hW
  have hA : DataW.TrodAll enc Ybaf.prog W 0 (fun _ => true) true Ybaf.f5.params.toList args.toList ds p := hA0
  have hV : DataW.TrodVars enc Ybaf.prog W (fun _ => true) [formName] gs q := hV0
  rw [Ybaf.params5] at hA hval
  obtain ⟨v0, vs0, d0, ds0, p0, q0, hargs, rfl, rfl, h0, r0⟩ := trodAll_cons hA
  obtain ⟨v1, vs1, d1, ds1, p1, q1, rfl, rfl, rfl, h1, r1⟩ := trodAll_cons r0
  obtain ⟨v2, vs2, d2, ds2, p2, q2, rfl, rfl, rfl, h2, r2⟩ := trodAll_cons r1
  obtain ⟨v3, vs3, d3, ds3, p3, q3, rfl, rfl, rfl, h3, r3⟩ := trodAll_cons r2
  obtain ⟨rfl, rfl, rfl⟩ := trodAll_nil r3
  obtain rfl : args = #[v0, v1, v2, v3] := by cases args; simp_all
  obtain ⟨a0, len0, cap0, rfl⟩ := okWide_slice Ybaf.underlying23 (hval 0 23 v0 rfl rfl)
  have k0 := h0
  have lt0 : ∀ x ∈ p0, x.block < W.heap.size := by obtain ⟨m, hm⟩ := k0; exact DataW.trod_lt m _ _ _ hm
  obtain ⟨pr, rfl, rfl, rfl, w1⟩ := open_int Ybaf.underlying3 (hval 1 3 v1 rfl rfl) h1
  obtain ⟨ln, rfl, rfl, rfl, w2⟩ := open_int Ybaf.underlying3 (hval 2 3 v2 rfl rfl) h2
  obtain ⟨ml, rfl, rfl, rfl, w3⟩ := open_int Ybaf.underlying3 (hval 3 3 v3 rfl rfl) h3
  have hL' : laidMet Ybaf.prog Rows.lawS5254CModelRow.laid W := hL
  obtain ⟨aR, tR, hvR, hcR, _, _⟩ := laid_sentinel (g := 3) hL'.tail.tail.tail (by kernel_rfl) (by kernel_rfl) Ybaf.underlying35 row82 Ybaf.underlying82 Ybaf.underlying84 rfl rfl Ybaf.underlying9 (by kernel_rfl) (by kernel_rfl)
  obtain ⟨aS, tS, hvS, hcS, _, _⟩ := laid_sentinel (g := 2) hL'.tail.tail.tail.tail (by kernel_rfl) (by kernel_rfl) Ybaf.underlying35 row82 Ybaf.underlying82 Ybaf.underlying84 rfl rfl Ybaf.underlying9 (by kernel_rfl) (by kernel_rfl)
  obtain ⟨aF, tF, hvF, hcF, _, _⟩ := laid_sentinel (g := 0) hL'.tail.tail.tail.tail.tail (by kernel_rfl) (by kernel_rfl) Ybaf.underlying35 row82 Ybaf.underlying82 Ybaf.underlying84 rfl rfl Ybaf.underlying9 (by kernel_rfl) (by kernel_rfl)
  obtain ⟨g, t, cs, fuel, d, p', rfl, hg, ht, hvar, hd, rfl⟩ := trodVars_one hV
  obtain rfl := Option.some.inj (hvF.symm.trans hvar)
  obtain rfl : t = 35 := by
    have e : (Ybaf.prog.globals[g]?).map (·.type) = some 35 := by
      obtain rfl := Option.some.inj ((show Ybaf.prog.globalNamed formName = some 0 by kernel_rfl).symm.trans hg)
      kernel_rfl
    exact Option.some.inj (ht.symm.trans e)
  obtain ⟨old, hcs, ho, hx⟩ := held_of_trod_list Ybaf.underlying35 hd
  simp only [Prod.mk.injEq] at hx
  obtain ⟨rfl, rfl⟩ := hx
  have hold : old = .iface 82 (.pointer (some aF)) := by simpa using hcs.symm
  subst hold
  obtain ⟨ss, w0⟩ : ∃ ss, IsStrs W a0 len0 cap0 ss := by
    obtain ⟨f0, hf⟩ := h0
    rcases open_strings Ybaf.underlying23 Ybaf.underlying9 (by kernel_rfl) hf with ⟨hcs', _⟩ | ⟨x, l, c, ss, hcs', _, hl, hm, hz, hxx, hcell, hwz⟩
    · simp [Value.cells] at hcs'
      obtain ⟨rfl, rfl, rfl⟩ := hcs'
      exact ⟨[], .inl ⟨rfl, rfl, rfl, rfl⟩⟩
    · simp [Value.cells] at hcs'
      obtain ⟨rfl, rfl, rfl⟩ := hcs'
      simp only [Prod.mk.injEq] at hxx
      obtain ⟨rfl, rfl⟩ := hxx
      refine ⟨ss, .inr ⟨_, rfl, hl, hm, by simpa using hz, hcell, fun y hy => ?_⟩⟩
      exact sized_elem hsz0 (j := 0) (t := 23) (e := 9) (by rw [Ybaf.params5]; rfl) rfl Ybaf.underlying23 hy
  clear hA0 hV0 hval0
  refine (walk F.told W aR aS aF a0 len0 cap0 ss pr ln ml hF ⟨hvR, hvS, hvF, block_lt_of_cell hcF, _, hcF⟩ w0 w1 w2 w3).mono fun e W' ⟨he, bel⟩ => ?_
  subst he
  have hvars := trodVars_mk1 (enc := enc) (spare := fun b => decide (b < W.heap.size)) (fuel := 1) (d := tok enc (.iface 82 (.pointer (some aF)))) (p := []) hg ht (var_below bel hvF) (trod_held Ybaf.underlying35 ho 0)
  refine ⟨_, rfl, _, _, _, [], _, _, hW', trodAll_mk1 (shut_bool Ybaf.underlying4 _), (trodAll_cons_mk (Below.trod Ybaf.laidOut (by kernel_rfl) (of_decide_eq_true (by kernel_rfl)) k0 bel lt0) (trodAll_cons_mk (shut_int Ybaf.underlying3 w1) (trodAll_cons_mk (shut_int Ybaf.underlying3 w2) (trodAll_cons_mk (shut_int Ybaf.underlying3 w3) trodAll_mk0)))), hvars, bel.frame _, fun h => by cases h⟩

end Go.Proofs.YbulkdducFmt

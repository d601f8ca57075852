import Derived.Test.YbulkdducFmtLaid
namespace Go.Proofs.YbulkdducFmt

set_option maxRecDepth 100000 in
theorem witC (os : Os) {H : Type} (enc : TypeId × Value → H) :
    (OpenSpec.ofChange Rows.lawS5254CModelSpec).preRow enc Ybaf.prog Ybaf.f5 Rows.lawS5254CModelRow.domain false Rows.lawS5254CModelRow.laid ((laidAt Ybaf.prog os).forCall (fun _ _ => 0) ⟨#[], #[.slice none 0 0, .int .i64 0, .int .i64 0, .int .i64 0], []⟩).memory #[.slice none 0 0, .int .i64 0, .int .i64 0, .int .i64 0] := by
  have hw : (DataW.whole enc Ybaf.prog ((laidAt Ybaf.prog os).forCall (fun _ _ => 0) ⟨#[], #[.slice none 0 0, .int .i64 0, .int .i64 0, .int .i64 0], []⟩).memory Ybaf.f5.params.toList (OpenSpec.ofChange Rows.lawS5254CModelSpec).vars false #[Value.slice none 0 0, .int .i64 0, .int .i64 0, .int .i64 0].toList 8).map (fun x => (x.1, x.2.1)) =
      some ([.nil, .lit (.int .i64 0), .lit (.int .i64 0), .lit (.int .i64 0)], [.held (enc (82, .pointer (some ⟨(World.settled Ybaf.prog os).heap.size + 2, 0, none⟩)))]) := by kernel_rfl
  obtain ⟨⟨x1, x2, x3⟩, hx, hx1⟩ := Option.map_eq_some_iff.1 hw
  simp only [Prod.mk.injEq] at hx1
  obtain ⟨rfl, rfl⟩ := hx1
  exact OpenSpec.preRow_of_cond 8 hx (by kernel_rfl) (fun k hk => by cases hk) (by kernel_rfl) (laid_met os _)

end Go.Proofs.YbulkdducFmt

import Derived.Test.YbulkdducFmtFacts
namespace Go.Proofs
open Go.Extern.Stop Go.Stop Go.Extern

@[go_sem] theorem Ybaf.fmt2 : FmtStop.printed? ⟨#[37, 115, 32, 97, 110, 100, 32, 105, 116, 115, 101, 108, 102]⟩ 1 = some [(0, 115, false)] := by kernel_rfl
@[go_sem] theorem Ybaf.fmt2r (w : World) : (FmtDoors.printed ⟨#[37, 115, 32, 97, 110, 100, 32, 105, 116, 115, 101, 108, 102]⟩ 1).run Ybaf.prog w = .ok [(0, 115, false)] w := by kernel_rfl
@[go_sem] theorem Ybaf.fmt3 : FmtStop.printed? ⟨#[37, 115, 32, 105, 115, 32, 110, 97, 109, 101, 100, 32, 98, 101, 102, 111, 114, 101, 32, 116, 104, 101, 32, 109, 101, 109, 98, 101, 114, 115, 32, 108, 105, 110, 101]⟩ 1 = some [(0, 115, false)] := by kernel_rfl
@[go_sem] theorem Ybaf.fmt3r (w : World) : (FmtDoors.printed ⟨#[37, 115, 32, 105, 115, 32, 110, 97, 109, 101, 100, 32, 98, 101, 102, 111, 114, 101, 32, 116, 104, 101, 32, 109, 101, 109, 98, 101, 114, 115, 32, 108, 105, 110, 101]⟩ 1).run Ybaf.prog w = .ok [(0, 115, false)] w := by kernel_rfl
@[go_sem] theorem Ybaf.fmt4 : FmtStop.printed? ⟨#[37, 113, 32, 105, 115, 32, 110, 111, 116, 32, 97, 32, 109, 101, 109, 98, 101, 114, 58, 32, 116, 104, 101, 32, 109, 101, 109, 98, 101, 114, 115, 32, 97, 114, 101, 32, 110, 49, 32, 116, 111, 32, 110, 37, 100]⟩ 2 = some [(0, 113, false), (1, 100, false)] := by kernel_rfl
@[go_sem] theorem Ybaf.fmt4r (w : World) : (FmtDoors.printed ⟨#[37, 113, 32, 105, 115, 32, 110, 111, 116, 32, 97, 32, 109, 101, 109, 98, 101, 114, 58, 32, 116, 104, 101, 32, 109, 101, 109, 98, 101, 114, 115, 32, 97, 114, 101, 32, 110, 49, 32, 116, 111, 32, 110, 37, 100]⟩ 2).run Ybaf.prog w = .ok [(0, 113, false), (1, 100, false)] w := by kernel_rfl
@[go_sem] theorem Ybaf.op9_115 (name : String) (x : ByteArray) (w : World) : (FmtStop.operand name false 115 false (.iface 9 (.string x))).run Ybaf.prog w = .ok (Ybaf.shape9, FmtStop.pack x.data.toList) w := by kernel_rfl
@[go_sem] theorem Ybaf.op9_115w (name : String) (x : ByteArray) (w : World) : (FmtStop.operand name true 115 false (.iface 9 (.string x))).run Ybaf.prog w = .ok (Ybaf.shape9, FmtStop.pack x.data.toList) w := by kernel_rfl
end Go.Proofs

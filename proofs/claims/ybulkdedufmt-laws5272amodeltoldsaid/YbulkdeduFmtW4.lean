import Derived.Test.YbulkdeduFmtRw
import Derived.Stop.CallBack
import Derived.Stop.IfaceNil
import Derived.Laws.CopyOwn
import GoSem.ClaimData
namespace Go.Proofs.YbulkdeduFmt
open Go.RowKit Go.Extern.Stop Go.Stop Go.Extern

@[go_sem] theorem Ybaf.call35 (args : Array Value) (w : World) : (callFunc 35 args).run Ybaf.prog w = ((FmtStop.errorf #[9, 132] #[26] args).run Ybaf.prog w).andThen fun v w' => .ok (.value v) w' :=
  run_callFunc_extern Ybaf.func35 (by kernel_rfl) (by kernel_rfl) (by kernel_rfl) (by kernel_rfl) args w
@[go_sem] theorem Ybaf.guard (name : String) (w : World) : (FmtStop.guard name).run Ybaf.prog w = .ok () w := by kernel_rfl
@[go_sem] theorem Ybaf.fmt0 : FmtStop.printed? ⟨#[102, 114, 97, 109, 101, 58, 32, 37, 115, 32, 99, 117, 116, 32, 115, 104, 111, 114, 116]⟩ 1 = some [(0, 115, false)] := by kernel_rfl
@[go_sem] theorem Ybaf.fmt0r (w : World) : (FmtDoors.printed ⟨#[102, 114, 97, 109, 101, 58, 32, 37, 115, 32, 99, 117, 116, 32, 115, 104, 111, 114, 116]⟩ 1).run Ybaf.prog w = .ok [(0, 115, false)] w := by kernel_rfl
@[go_sem] theorem Ybaf.fmt1 : FmtStop.printed? ⟨#[102, 114, 97, 109, 101, 58, 32, 37, 115, 32, 111, 118, 101, 114, 102, 108, 111, 119, 115, 32, 54, 52, 32, 98, 105, 116, 115]⟩ 1 = some [(0, 115, false)] := by kernel_rfl
@[go_sem] theorem Ybaf.fmt1r (w : World) : (FmtDoors.printed ⟨#[102, 114, 97, 109, 101, 58, 32, 37, 115, 32, 111, 118, 101, 114, 102, 108, 111, 119, 115, 32, 54, 52, 32, 98, 105, 116, 115]⟩ 1).run Ybaf.prog w = .ok [(0, 115, false)] w := by kernel_rfl
@[go_sem] theorem Ybaf.fmt2 : FmtStop.printed? ⟨#[102, 114, 97, 109, 101, 58, 32, 37, 115, 32, 105, 115, 32, 110, 111, 116, 32, 105, 110, 32, 105, 116, 115, 32, 115, 104, 111, 114, 116, 101, 115, 116, 32, 102, 111, 114, 109]⟩ 1 = some [(0, 115, false)] := by kernel_rfl
@[go_sem] theorem Ybaf.fmt2r (w : World) : (FmtDoors.printed ⟨#[102, 114, 97, 109, 101, 58, 32, 37, 115, 32, 105, 115, 32, 110, 111, 116, 32, 105, 110, 32, 105, 116, 115, 32, 115, 104, 111, 114, 116, 101, 115, 116, 32, 102, 111, 114, 109]⟩ 1).run Ybaf.prog w = .ok [(0, 115, false)] w := by kernel_rfl
def Ybaf.shape9 : List UInt8 := [12, 6, 0, 0, 0, 0, 0, 0, 0, 115, 116, 114, 105, 110, 103]
@[go_sem] theorem Ybaf.op9_115w (name : String) (x : ByteArray) (w : World) : (FmtStop.operand name true 115 false (.iface 9 (.string x))).run Ybaf.prog w = .ok (Ybaf.shape9, FmtStop.pack x.data.toList) w := by kernel_rfl
@[go_sem] theorem Ybaf.ptr94 (w : World) : (FmtStop.ptrTo "errors.errorString").run Ybaf.prog w = .ok 94 w := by kernel_rfl
@[go_sem] theorem Ybaf.elem94 (w : World) : (elemOf 94).run Ybaf.prog w = .ok 96 w := by kernel_rfl

set_option maxRecDepth 100000 in
theorem errorf0 (x : ByteArray) (b : Nat) (w : World) (hc : w.cell? ⟨b, 0, none⟩ = some (.iface 9 (.string x))) :
    Calls Ybaf.prog 25 #[.string ⟨#[102, 114, 97, 109, 101, 58, 32, 37, 115, 32, 99, 117, 116, 32, 115, 104, 111, 114, 116]⟩, .slice (some ⟨b, 0, none⟩) 1 1] w fun e w' => e = .returned (.iface 94 (.pointer (some ⟨w.heap.size, 0, none⟩))) ∧ ∃ s, w' = (w.alloc (.cells #[.string s] 96)).drew := by
  go_enter Ybaf.func25, Ybaf.ntmps25
  go_wp2
  go_ret
  exact ⟨rfl, _, rfl⟩
set_option maxRecDepth 100000 in
theorem errorf1 (x : ByteArray) (b : Nat) (w : World) (hc : w.cell? ⟨b, 0, none⟩ = some (.iface 9 (.string x))) :
    Calls Ybaf.prog 25 #[.string ⟨#[102, 114, 97, 109, 101, 58, 32, 37, 115, 32, 111, 118, 101, 114, 102, 108, 111, 119, 115, 32, 54, 52, 32, 98, 105, 116, 115]⟩, .slice (some ⟨b, 0, none⟩) 1 1] w fun e w' => e = .returned (.iface 94 (.pointer (some ⟨w.heap.size, 0, none⟩))) ∧ ∃ s, w' = (w.alloc (.cells #[.string s] 96)).drew := by
  go_enter Ybaf.func25, Ybaf.ntmps25
  go_wp2
  go_ret
  exact ⟨rfl, _, rfl⟩
set_option maxRecDepth 100000 in
theorem errorf2 (x : ByteArray) (b : Nat) (w : World) (hc : w.cell? ⟨b, 0, none⟩ = some (.iface 9 (.string x))) :
    Calls Ybaf.prog 25 #[.string ⟨#[102, 114, 97, 109, 101, 58, 32, 37, 115, 32, 105, 115, 32, 110, 111, 116, 32, 105, 110, 32, 105, 116, 115, 32, 115, 104, 111, 114, 116, 101, 115, 116, 32, 102, 111, 114, 109]⟩, .slice (some ⟨b, 0, none⟩) 1 1] w fun e w' => e = .returned (.iface 94 (.pointer (some ⟨w.heap.size, 0, none⟩))) ∧ ∃ s, w' = (w.alloc (.cells #[.string s] 96)).drew := by
  go_enter Ybaf.func25, Ybaf.ntmps25
  go_wp2
  go_ret
  exact ⟨rfl, _, rfl⟩
end Go.Proofs.YbulkdeduFmt

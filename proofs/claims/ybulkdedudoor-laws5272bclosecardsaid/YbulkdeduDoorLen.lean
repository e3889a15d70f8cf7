import Derived.Test.YbulkdeduDoorMap
namespace Go.Proofs.YbulkdeduDoor
open Go.RowKit Go.ChangeMaps Go.MapKept
theorem mapLen (W : World) (mb c : Nat) (es : Array MapEntry) (h : W.heap[mb]? = some (.map es c)) : (Builtin.len_ #[60] 3 #[.map (some mb)]).run Ybad.prog W = .ok (.int .i64 es.size) W := by
  simp [Builtin.len_, run_underlying Ybad.underlying60, Go.MapKept.run_getObj_map h, goInt]
end Go.Proofs.YbulkdeduDoor

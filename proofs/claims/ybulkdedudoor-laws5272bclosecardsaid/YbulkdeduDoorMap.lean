import Derived.Test.YbulkdeduDoorW4
import Derived.Maps.Own
namespace Go.Proofs.YbulkdeduDoor
open Go.RowKit Go.ChangeMaps Go.MapKept

/-- the one entry -/
def ent (v : Value) : MapEntry := { key := .int .i64 0, val := v, born := 0 }

theorem Ybad.checkKey (b : Bool) (W : World) : (Instr.checkKey b 10000 3 (.int .i64 0)).run Ybad.prog W = .ok () W := by kernel_rfl
theorem Ybad.findKey0 (W : World) : (Instr.findKey 3 (.int .i64 0) []).run Ybad.prog W = .ok none W := by kernel_rfl
theorem Ybad.findKey1 (v : Value) (W : World) : (Instr.findKey 3 (.int .i64 0) [ent v]).run Ybad.prog W = .ok (some (0, v)) W := by kernel_rfl

theorem mapUpd0 (W : World) (mb : Nat) (v : Value) (h : W.heap[mb]? = some (.map #[] 0)) :
    (Instr.mapUpdate 60 (.map (some mb)) (.int .i64 0) v).run Ybad.prog W = .ok () (setBlock W mb (.map #[ent v] 1)) := by
  simp [Instr.mapUpdate, run_underlying Ybad.underlying60, Go.MapKept.run_getObj_map h, Ybad.checkKey, Ybad.findKey0, Go.MapKept.run_setObj_map _ h, setBlock, ent]
theorem mapLook1 (W : World) (mb c : Nat) (v : Value) (h : W.heap[mb]? = some (.map #[ent v] c)) :
    (Instr.lookup 60 (.map (some mb)) (.int .i64 0) false).run Ybad.prog W = .ok v W := by
  simp [Instr.lookup, run_underlying Ybad.underlying60, Go.MapKept.run_getObj_map h, Ybad.checkKey, Ybad.findKey1]
theorem mapLook1ok (W : World) (mb c : Nat) (v : Value) (h : W.heap[mb]? = some (.map #[ent v] c)) :
    (Instr.lookup 60 (.map (some mb)) (.int .i64 0) true).run Ybad.prog W = .ok (.tuple #[v, .bool true]) W := by
  simp [Instr.lookup, run_underlying Ybad.underlying60, Go.MapKept.run_getObj_map h, Ybad.checkKey, Ybad.findKey1]
theorem mapLook0ok (W : World) (mb c : Nat) (h : W.heap[mb]? = some (.map #[] c)) :
    (Instr.lookup 60 (.map (some mb)) (.int .i64 0) true).run Ybad.prog W = .ok (.tuple #[.pointer none, .bool false]) W := by
  simp [Instr.lookup, run_underlying Ybad.underlying60, Go.MapKept.run_getObj_map h, Ybad.checkKey, Ybad.findKey0]
theorem mapDel1 (W : World) (mb c : Nat) (v : Value) (ty : TypeId) (h : W.heap[mb]? = some (.map #[ent v] c)) :
    (Builtin.delete_ #[60, 3] ty #[.map (some mb), .int .i64 0]).run Ybad.prog W = .ok (.tuple #[]) (setBlock W mb (.map #[] c)) := by
  simp [Builtin.delete_, run_underlying Ybad.underlying60, Go.MapKept.run_getObj_map h, Ybad.checkKey, Ybad.findKey1, Go.MapKept.run_setObj_map _ h, setBlock]

/-- writing a map's block: no cell is touched -/
theorem setBlock_cell {W : World} {mb : Nat} {es : Array MapEntry} {c : Nat} (h : W.heap[mb]? = some (.map es c)) (es' : Array MapEntry) (c' : Nat) (b o : Nat) : (setBlock W mb (.map es' c')).cell? ⟨b, o, none⟩ = W.cell? ⟨b, o, none⟩ := by
  by_cases e : b = mb
  · subst e
    simp [World.cell?, h, heap_setBlock_same h]
  · exact World.cell?_of_block (w := W) (heap_setBlock_other h _ e)
theorem setBlock_frozen {W : World} {mb : Nat} {es : Array MapEntry} {c : Nat} (h : W.heap[mb]? = some (.map es c)) (es' : Array MapEntry) (c' : Nat) (b o : Nat) : (setBlock W mb (.map es' c')).frozen? ⟨b, o, none⟩ = W.frozen? ⟨b, o, none⟩ := by
  by_cases e : b = mb
  · subst e
    simp [World.frozen?, h, heap_setBlock_same h]
  · exact World.frozen?_of_block (w := W) (heap_setBlock_other h _ e)
theorem setBlock_below {B : Nat} {w W : World} (hb : Below B w W) {mb : Nat} {es : Array MapEntry} {c : Nat} (h : W.heap[mb]? = some (.map es c)) (hB : B ≤ mb) (o : Obj) : Below B w (setBlock W mb o) :=
  hb.trans ⟨rfl, rfl, rfl, by simp [setBlock], fun k hk => heap_setBlock_other h _ (by omega)⟩
end Go.Proofs.YbulkdeduDoor

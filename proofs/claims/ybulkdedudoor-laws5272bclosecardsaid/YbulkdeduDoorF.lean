import Derived.Test.YbulkdeduDoorPre
import Derived.ChangeKeysEq
namespace Go.Proofs.YbulkdeduDoor
open Go.RowKit

/-- the envelope's cells -/
noncomputable def E42 (kb : Int) (seq : Int) (after : Bool) (a b c : Int) : Array Value :=
  (Ybad.prog.built 42 [(0, .int .u8 kb), (1, .int .i64 0), (2, .int .u64 seq), (10, .bool after), (11, .agg #[.int .u64 a, .int .u64 b, .int .u64 c])]).getD #[]
theorem e42_some (kb : Int) (seq : Int) (after : Bool) (a b c : Int) : (Ybad.prog.built 42 [(0, .int .u8 kb), (1, .int .i64 0), (2, .int .u64 seq), (10, .bool after), (11, .agg #[.int .u64 a, .int .u64 b, .int .u64 c])]).isSome = true := by kernel_rfl
theorem Ybad.build42 (kb : Int) (seq : Int) (after : Bool) (a b c : Int) (w : World) : (Instr.build 42 #[(0, .int .u8 kb), (1, .int .i64 0), (2, .int .u64 seq), (10, .bool after), (11, .agg #[.int .u64 a, .int .u64 b, .int .u64 c])]).run Ybad.prog w = .ok (.agg (E42 kb seq after a b c)) w := by
  obtain ⟨cs, hcs⟩ := Option.isSome_iff_exists.1 (e42_some kb seq after a b c)
  rw [run_build w 42 _ cs hcs]
  unfold E42
  rw [hcs]
  rfl
theorem e42_0 (kb : Int) (seq : Int) (after : Bool) (a b c : Int) : (E42 kb seq after a b c)[0]? = some (.int .u8 kb) := by kernel_rfl
theorem e42_1 (kb : Int) (seq : Int) (after : Bool) (a b c : Int) : (E42 kb seq after a b c)[1]? = some (.int .i64 0) := by kernel_rfl
theorem e42_2 (kb : Int) (seq : Int) (after : Bool) (a b c : Int) : (E42 kb seq after a b c)[2]? = some (.int .u64 seq) := by kernel_rfl
theorem e42_11 (kb : Int) (seq : Int) (after : Bool) (a b c : Int) : (E42 kb seq after a b c)[11]? = some (.bool after) := by kernel_rfl
theorem e42_12 (kb : Int) (seq : Int) (after : Bool) (a b c : Int) : (E42 kb seq after a b c)[12]? = some (.int .u64 a) := by kernel_rfl
theorem e42_13 (kb : Int) (seq : Int) (after : Bool) (a b c : Int) : (E42 kb seq after a b c)[13]? = some (.int .u64 b) := by kernel_rfl
theorem e42_14 (kb : Int) (seq : Int) (after : Bool) (a b c : Int) : (E42 kb seq after a b c)[14]? = some (.int .u64 c) := by kernel_rfl

theorem Ybad.info22 : (Ybad.prog.info? 22).isSome = true := by kernel_rfl
theorem Ybad.eq23 (a b c : Int) (w : World) : (Op.equalIn 10000 23 (.agg #[.int .u64 a, .int .u64 b, .int .u64 c]) (.agg #[.int .u64 a, .int .u64 b, .int .u64 c])).run Ybad.prog w = .ok true w := by
  obtain ⟨i, hi⟩ := Option.isSome_iff_exists.1 Ybad.info22
  have h := run_equalIn_array (P := Ybad.prog) (w := w) 9999 #[.int .u64 a, .int .u64 b, .int .u64 c] #[.int .u64 a, .int .u64 b, .int .u64 c] Ybad.underlying23 hi
  have hc : Ybad.prog.cellsOf 22 = 1 := by kernel_rfl
  have p0 : ∀ (x y z : Value) (w : World), (part 22 #[x, y, z] 0).run Ybad.prog w = .ok x w := fun x y z w => by kernel_rfl
  have p1 : ∀ (x y z : Value) (w : World), (part 22 #[x, y, z] 1).run Ybad.prog w = .ok y w := fun x y z w => by kernel_rfl
  have p2 : ∀ (x y z : Value) (w : World), (part 22 #[x, y, z] 2).run Ybad.prog w = .ok z w := fun x y z w => by kernel_rfl
  have hq : ∀ x : Int, (Op.equalIn 9999 22 (.int .u64 x) (.int .u64 x)).run Ybad.prog w = .ok true w := fun x => by rw [run_equalIn_int w 9998 22 .u64 .u64 x x Ybad.underlying22]; simp
  rw [h, hc, show List.range 3 = [0, 1, 2] from rfl]
  simp [Op.eqItems, p0, p1, p2, hq]
theorem Ybad.neq23 (a b c : Int) (w : World) : (binOp .neq 23 (.agg #[.int .u64 a, .int .u64 b, .int .u64 c]) (.agg #[.int .u64 a, .int .u64 b, .int .u64 c])).run Ybad.prog w = .ok (.bool false) w := by
  simp only [binOp]
  simp [Op.equal, Op.maxDepth, Ybad.eq23]
end Go.Proofs.YbulkdeduDoor

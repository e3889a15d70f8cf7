import Derived.Test.YbulkdeduDoorW5
import Derived.Test.YbulkdeduDoorF
import Derived.Test.YbulkdeduDoorIn5
import Derived.Test.YbulkdeduDoorLen
import Derived.Laws.StructEq
namespace Go.Proofs.YbulkdeduDoor
open Go.RowKit Go.ChangeMaps Go.MapKept

theorem Ybad.held78 : Ybad.prog.stoodInHeld 78 = false := by kernel_rfl
theorem Ybad.fields78 : Ybad.prog.underlying 78 = some (.struct (Ybad.prog.fieldsOf 78)) := by kernel_rfl
theorem Ybad.eq78 (a b : Int) (w : World) : (Op.equalIn 10000 78 (.agg #[.int .u64 a, .int .u64 b]) (.agg #[.int .u64 a, .int .u64 b])).run Ybad.prog w = .ok true w := by
  rw [run_equalIn_struct w 9999 78 _ _ Ybad.fields78 Ybad.held78]
  have hq : ∀ x : Int, (Op.equalIn 9999 22 (.int .u64 x) (.int .u64 x)).run Ybad.prog w = .ok true w := fun x => by rw [run_equalIn_int w 9998 22 .u64 .u64 x x Ybad.underlying22]; simp
  have p0 : ∀ (x y : Value) (w : World), (part 22 #[x, y] 0).run Ybad.prog w = .ok x w := fun x y w => by kernel_rfl
  have p1 : ∀ (x y : Value) (w : World), (part 22 #[x, y] 1).run Ybad.prog w = .ok y w := fun x y w => by kernel_rfl
  have hf : ((Ybad.prog.fieldsOf 78).toList.map fun f => (f.type, f.offset)) = [(22, 0), (22, 1)] := by kernel_rfl
  obtain ⟨n1, n2, e, t1, t2, o1, o2⟩ : ∃ n1 n2 : Field, (Ybad.prog.fieldsOf 78).toList = [n1, n2] ∧ n1.type = 22 ∧ n2.type = 22 ∧ n1.offset = 0 ∧ n2.offset = 1 := by
    revert hf
    generalize (Ybad.prog.fieldsOf 78).toList = L
    intro hf
    rcases L with _ | ⟨n1, _ | ⟨n2, _ | ⟨n3, L⟩⟩⟩
    · simp at hf
    · simp at hf
    · simp at hf
      exact ⟨n1, n2, rfl, hf.1.1, hf.2.1, hf.1.2, hf.2.2⟩
    · simp at hf
  rw [e]
  by_cases h1 : n1.name ≠ "_"
  all_goals by_cases h2 : n2.name ≠ "_"
  all_goals simp [Op.eqFields, h1, h2, t1, t2, o1, o2, p0, p1, hq]
theorem Ybad.neq78 (a b : Int) (w : World) : (binOp .neq 78 (.agg #[.int .u64 a, .int .u64 b]) (.agg #[.int .u64 a, .int .u64 b])).run Ybad.prog w = .ok (.bool false) w := by
  simp only [binOp]
  simp [Op.equal, Op.maxDepth, Ybad.eq78]

/-- what the law reads at its end -/
structure Fin3 (w V : World) (bb fb k : Nat) (seq hi : Int) (l t : Nat → Int) : Prop where
  floor : Three V bb 0 (flAt l t k seq hi 3)
  wfl : Three V fb 0 (flAt l t k seq hi 3)
  saidk : Three V bb (6 + k * 3) (sdAt l t k 3)
  wsd : Three V (fb + 1) 0 (sdAt l t k 3)
  saido : ∀ m, m < 3 → m ≠ k → Three V bb (6 + m * 3) (fun _ => 0)
  gapsO : ∀ i, i < 3 → opn l t k i = true → ∃ v, V.cell? ⟨bb, 3 + i, none⟩ = some v ∧ OneGap V 0 v (t i) seq
  gapsN : ∀ i, i < 3 → opn l t k i = false → V.cell? ⟨bb, 3 + i, none⟩ = some (.slice none 0 0)
  last : Three V w.heap.size 0 l
  late : Three V (w.heap.size + 1) 0 t
  bel : Below w.heap.size w V

section
variable {w V W : World} {n bb mb fb k : Nat} {seq hi gb : Int} {l t : Nat → Int}
theorem Fin3.grew (h : Fin3 w V bb fb k seq hi l t) (g : Grew V W) : Fin3 w W bb fb k seq hi l t := by
  have b1 : bb < V.heap.size := World.block_lt_of_cell? (a := ⟨bb, 0 + 0, none⟩) _ (h.floor 0 (by decide))
  have b2 : fb < V.heap.size := World.block_lt_of_cell? (a := ⟨fb, 0 + 0, none⟩) _ (h.wfl 0 (by decide))
  have b3 : fb + 1 < V.heap.size := World.block_lt_of_cell? (a := ⟨fb + 1, 0 + 0, none⟩) _ (h.wsd 0 (by decide))
  have b4 : w.heap.size < V.heap.size := World.block_lt_of_cell? (a := ⟨w.heap.size, 0 + 0, none⟩) _ (h.last 0 (by decide))
  have b5 : w.heap.size + 1 < V.heap.size := World.block_lt_of_cell? (a := ⟨w.heap.size + 1, 0 + 0, none⟩) _ (h.late 0 (by decide))
  refine ⟨h.floor.keep fun i _ => g.cell _ _ b1, h.wfl.keep fun i _ => g.cell _ _ b2, h.saidk.keep fun i _ => g.cell _ _ b1, h.wsd.keep fun i _ => g.cell _ _ b3, fun m hm hk => (h.saido m hm hk).keep fun i _ => g.cell _ _ b1, fun i hi3 ho => ?_, fun i hi3 ho => (g.cell _ _ b1).trans (h.gapsN i hi3 ho), h.last.keep fun i _ => g.cell _ _ b4, h.late.keep fun i _ => g.cell _ _ b5, h.bel.trans (g.bel.mono (by omega))⟩
  obtain ⟨v, hv, hg⟩ := h.gapsO i hi3 ho
  exact ⟨v, (g.cell _ _ b1).trans hv, hg.keep (Nat.le_refl _) (fun b o _ hb => g.cell b o hb) g.bel.size⟩
theorem Fin3.drewN (h : Fin3 w V bb fb k seq hi l t) (d : Nat) : Fin3 w (V.drewN d) bb fb k seq hi l t := h.grew (Grew.drewN _ d)
theorem gather3 {f : Nat → Int} {o : Nat} (h : Three V bb o f) : V.cell? ⟨bb, o, none⟩ = some (.int .u64 (f 0)) ∧ V.cell? ⟨bb, o + 1, none⟩ = some (.int .u64 (f 1)) ∧ V.cell? ⟨bb, o + 2, none⟩ = some (.int .u64 (f 2)) := ⟨h 0 (by decide), h 1 (by decide), h 2 (by decide)⟩
end
end Go.Proofs.YbulkdeduDoor

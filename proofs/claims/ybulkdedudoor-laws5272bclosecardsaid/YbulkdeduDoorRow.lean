/- What both laws' rows share: the laid variable opened, an array of three opened, the door's world. -/
import Derived.Test.YbulkdeduDoorTie
import Derived.Test.YbulkdeduDoorCards
import Derived.ProofKit
import Derived.LaidMore
import Derived.OpenShut
import Derived.OpenVars
import Derived.Lib.LaidTab
import Derived.Laws.IdiomArrays
import Derived.MakeChecks
import Derived.ChangeOld
import Derived.Below
namespace Go.Proofs.YbulkdeduDoor
open Go.ChangeShapes Go.WideShapes Go.ChangeAt Go.RowKit
set_option maxRecDepth 100000

theorem Ybad.own : ownKnob Ybad.prog.godebug = none := by kernel_rfl
theorem Ybad.laidOut : laidOutB Ybad.prog = true := by kernel_rfl
theorem Ybad.gKind : Ybad.prog.globalNamed "example.com/antecede/antecede.kindOfCopy" = some 0 := by kernel_rfl

/-- the variable's numbers -/
def kindNums : List Int := [0, 0, 1, 0, 0, 0, 0, 0, 0, 0, 2] ++ List.replicate 245 0
theorem kindData : (Rows.laid_example_com_antecede_antecede_kindOfCopy : DataW Unit) = Lib.tabData .u8 kindNums := by kernel_rfl
theorem Ybad.kindType : (Ybad.prog.globals[0]?).map (·.type) = some 97 := by kernel_rfl
theorem Ybad.cells97 : Ybad.prog.cellsOf 97 = 256 := by kernel_rfl
theorem Ybad.cells5 : Ybad.prog.cellsOf 5 = 1 := by kernel_rfl

theorem kinds_of_laid {W : World} (h : laidMetH Ybad.prog [("example.com/antecede/antecede.kindOfCopy", Rows.laid_example_com_antecede_antecede_kindOfCopy)] W) :
    W.cell? ⟨0, 1, none⟩ = some (.int .u8 0) ∧ W.cell? ⟨0, 2, none⟩ = some (.int .u8 1) ∧ W.cell? ⟨0, 10, none⟩ = some (.int .u8 2) := by
  rw [MakeChecks.laidMetH_plain _ _ _ (by kernel_rfl), kindData] at h
  have hT := Lib.tabIs_of_head Ybad.gKind Ybad.kindType Ybad.underlying97 Ybad.underlying5 Ybad.cells5 Ybad.cells97 h
  exact ⟨hT.cell Ybad.gKind 1 (by decide), hT.cell Ybad.gKind 2 (by decide), hT.cell Ybad.gKind 10 (by decide)⟩

theorem door_met (os : Os) (args : Array Value) : laidMetH Ybad.prog [("example.com/antecede/antecede.kindOfCopy", Rows.laid_example_com_antecede_antecede_kindOfCopy)] ((World.doorLaid Ybad.prog 14 os).forCall (fun _ _ => 0) ⟨#[], args, []⟩).memory :=
  laidMetH_of_parts3 (fuel := 8) (laidMet_of_run' 8 (by kernel_rfl) (by kernel_rfl)) (by kernel_rfl) (by kernel_rfl)

theorem Ybad.cells23 : Ybad.prog.cellsOf 23 = 3 := by kernel_rfl
theorem Ybad.cells22 : Ybad.prog.cellsOf 22 = 1 := by kernel_rfl
/-- an array of three numbers that came in -/
theorem open23 {H : Type} {enc : TypeId × Value → H} {W : World} {base : Nat} {v : Value} {d : DataW H} {p : List MemPlace} (hv : Value.okWide Ybad.prog W .any base 23 v) (h : DataW.Trod enc Ybad.prog W 0 (fun _ => true) true 23 v d p) :
    ∃ f : Nat → Int, v = .agg #[.int .u64 (f 0), .int .u64 (f 1), .int .u64 (f 2)] ∧ ∀ i, i < 3 → (Lit.int .u64 (f i)).wf = true := by
  simp only [Value.okWide, Ybad.underlying23] at hv
  obtain ⟨cs, rfl, hs, _⟩ := hv
  rw [Ybad.cells23] at hs
  obtain ⟨fuel, hf⟩ := h
  obtain ⟨l⟩ := cs
  match l, hs with
  | [c0, c1, c2], _ =>
    obtain ⟨y0, y1, y2, n, _, e0, e1, e2⟩ := trod_array3 Ybad.underlying23 Ybad.cells22 hf
    obtain ⟨k0, a0, _, b0⟩ := DataW.trod_int Ybad.underlying22 e0
    obtain ⟨k1, a1, _, b1⟩ := DataW.trod_int Ybad.underlying22 e1
    obtain ⟨k2, a2, _, b2⟩ := DataW.trod_int Ybad.underlying22 e2
    simp only [List.cons.injEq, and_true] at a0 a1 a2
    subst a0 a1 a2
    refine ⟨fun i => if i = 0 then k0 else if i = 1 then k1 else k2, rfl, fun i hi => ?_⟩
    obtain rfl | rfl | rfl : i = 0 ∨ i = 1 ∨ i = 2 := by omega
    · exact b0
    · exact b1
    · exact b2
end Go.Proofs.YbulkdeduDoor

import Derived.Test.YbulkdeduDoorRows
import Derived.WalkKit
import Derived.WalkSpells
import Derived.BigQuiet
import Derived.Deep.QuietTactic
import Derived.Deep.DeepCutAuto
import Derived.Deep.CutBlock
import Derived.Deep.RegionHeld3
import Derived.Laws.Tables
import Derived.Below
namespace Go.Proofs.YbulkdeduDoor
open Go.RowKit

theorem absW {P : World → Prop} {w : World} (F : World → Prop) (hF : F w) (h : ∀ W, F W → P W) : P w := h w hF

def Z128 : Array Value := Array.replicate 128 (.int .u64 0)
@[go_sem] theorem Ybad.zero85 (w : World) : (zeroValue 85).run Ybad.prog w = .ok (.agg Z128) w := by kernel_rfl

/-- the engine's cells, its three tables' lists of blocks at x, y, z -/
noncomputable def E66 (x y z : Option Addr) : Array Value :=
  (Ybad.prog.built 66 [(3, .agg #[.int .i64 1, .slice x 1 1]), (19, .agg #[.int .i64 1, .slice y 1 1]), (24, .agg #[.int .i64 1, .slice z 1 1])]).getD #[]
theorem e66_some (x y z : Option Addr) : (Ybad.prog.built 66 [(3, .agg #[.int .i64 1, .slice x 1 1]), (19, .agg #[.int .i64 1, .slice y 1 1]), (24, .agg #[.int .i64 1, .slice z 1 1])]).isSome = true := by kernel_rfl
theorem e66_4 (x y z : Option Addr) : (E66 x y z)[4]? = some (.slice x 1 1) := by kernel_rfl
theorem e66_49 (x y z : Option Addr) : (E66 x y z)[49]? = some (.slice y 1 1) := by kernel_rfl
theorem e66_56 (x y z : Option Addr) : (E66 x y z)[56]? = some (.slice z 1 1) := by kernel_rfl
theorem e66_63 (x y z : Option Addr) : (E66 x y z)[63]? = some (.map none) := by kernel_rfl
theorem e66_64 (x y z : Option Addr) : (E66 x y z)[64]? = some (.int .i64 0) := by kernel_rfl

theorem wpList_build66 {ops : Array Oper} {rest : List Oper} {o : Oper} {a : Act} {w : World} {Q : Exit → Act → World → Prop} (hg : o.guard = none) (ho : o.op = .build 66 #[(3, .tmp 17), (19, .tmp 19), (24, .tmp 21)])
    (x y z : Option Addr) (h17 : a.eval (.tmp 17) = .agg #[.int .i64 1, .slice x 1 1]) (h19 : a.eval (.tmp 19) = .agg #[.int .i64 1, .slice y 1 1]) (h21 : a.eval (.tmp 21) = .agg #[.int .i64 1, .slice z 1 1])
    (h : wpList Ybad.prog ops Q rest (a.put o.dst (.agg (E66 x y z))) w) : wpList Ybad.prog ops Q (o :: rest) a w := by
  refine wpList_build hg 66 _ ho ?_ ?_
  · simpa [h17, h19, h21] using e66_some x y z
  · simpa [h17, h19, h21, E66] using h

/-- the engine's three tables in memory: the engine at block n + 7 -/
structure Eng (W : World) (n : Nat) (l0 l1 l2 : Int) : Prop where
  a1 : W.cell? ⟨n + 7, 4, none⟩ = some (.slice (some ⟨n + 4, 0, none⟩) 1 1)
  a2 : W.cell? ⟨n + 4, 0, none⟩ = some (.pointer (some ⟨n + 1, 0, none⟩))
  a3 : W.cell? ⟨n + 1, 0, none⟩ = some (.int .u64 l0)
  a4 : W.cell? ⟨n + 1, 1, none⟩ = some (.int .u64 0)
  b1 : W.cell? ⟨n + 7, 49, none⟩ = some (.slice (some ⟨n + 5, 0, none⟩) 1 1)
  b2 : W.cell? ⟨n + 5, 0, none⟩ = some (.pointer (some ⟨n + 2, 0, none⟩))
  b3 : W.cell? ⟨n + 2, 0, none⟩ = some (.int .u64 l1)
  c1 : W.cell? ⟨n + 7, 56, none⟩ = some (.slice (some ⟨n + 6, 0, none⟩) 1 1)
  c2 : W.cell? ⟨n + 6, 0, none⟩ = some (.pointer (some ⟨n + 3, 0, none⟩))
  c3 : W.cell? ⟨n + 3, 0, none⟩ = some (.int .u64 l2)
theorem Eng.keep {W V : World} {n : Nat} {l0 l1 l2 : Int} (h : Eng W n l0 l1 l2) (hs : ∀ b o, b < n + 8 → (b ≠ n + 7 ∨ (o ≠ 63 ∧ o ≠ 64)) → V.cell? ⟨b, o, none⟩ = W.cell? ⟨b, o, none⟩) : Eng V n l0 l1 l2 :=
  ⟨(hs _ _ (by omega) (by omega)).trans h.a1, (hs _ _ (by omega) (by omega)).trans h.a2, (hs _ _ (by omega) (by omega)).trans h.a3, (hs _ _ (by omega) (by omega)).trans h.a4,
   (hs _ _ (by omega) (by omega)).trans h.b1, (hs _ _ (by omega) (by omega)).trans h.b2, (hs _ _ (by omega) (by omega)).trans h.b3,
   (hs _ _ (by omega) (by omega)).trans h.c1, (hs _ _ (by omega) (by omega)).trans h.c2, (hs _ _ (by omega) (by omega)).trans h.c3⟩

/-- the end of the engine's making -/
structure Made (w W : World) (l0 l1 l2 : Int) : Prop where
  eng : Eng W w.heap.size l0 l1 l2
  bounds : W.cell? ⟨w.heap.size + 7, 63, none⟩ = some (.map none)
  gap : W.cell? ⟨w.heap.size + 7, 64, none⟩ = some (.int .i64 0)
  fr : ∀ o, W.frozen? ⟨w.heap.size + 7, o, none⟩ = false
  sz : W.heap.size = w.heap.size + 8
  bel : Below w.heap.size w W

theorem made_of (w : World) (l0 l1 l2 : Int) (o0 : Obj) (A1 A2 A3 : Array Value) (t1 t2 t4 t5 : TypeId) (h1 : A1[0]? = some (.int .u64 l0)) (h1' : A1[1]? = some (.int .u64 0)) (h2 : A2[0]? = some (.int .u64 l1)) (h3 : A3[0]? = some (.int .u64 l2)) :
    Made w ((((((((w.alloc o0).alloc (.cells A1 t1)).alloc (.cells A2 t2)).alloc (.cells A3 t2)).alloc (.cells #[.pointer (some ⟨w.heap.size + 1, 0, none⟩)] t4)).alloc (.cells #[.pointer (some ⟨w.heap.size + 1 + 1, 0, none⟩)] t5)).alloc
      (.cells #[.pointer (some ⟨w.heap.size + 1 + 1 + 1, 0, none⟩)] t5)).alloc (.cells (E66 (some ⟨w.heap.size + 1 + 1 + 1 + 1, 0, none⟩) (some ⟨w.heap.size + 1 + 1 + 1 + 1 + 1, 0, none⟩) (some ⟨w.heap.size + 1 + 1 + 1 + 1 + 1 + 1, 0, none⟩)) 66)) l0 l1 l2 := by
  have at' : ∀ (V : World) (c : Array Value) (t : TypeId) (n i : Nat) (v : Value), n = V.heap.size → c[i]? = some v → (V.alloc (.cells c t)).cell? ⟨n, i, none⟩ = some v := fun V c t n i v hn hv => (World.cell?_alloc_at _ _ _ _ hn).trans hv
  refine ⟨⟨?_, ?_, ?_, ?_, ?_, ?_, ?_, ?_, ?_, ?_⟩, ?_, ?_, ?_, ?_, ?_⟩
  · exact at' _ _ _ _ _ _ (by simp) (e66_4 _ _ _)
  · iterate 3 rw [World.cell?_alloc_past _ _ _ (by simp only [World.size_alloc]; omega)]
    exact at' _ _ _ _ _ _ (by simp) rfl
  · iterate 6 rw [World.cell?_alloc_past _ _ _ (by simp only [World.size_alloc]; omega)]
    exact at' _ _ _ _ _ _ (by simp) h1
  · iterate 6 rw [World.cell?_alloc_past _ _ _ (by simp only [World.size_alloc]; omega)]
    exact at' _ _ _ _ _ _ (by simp) h1'
  · exact at' _ _ _ _ _ _ (by simp) (e66_49 _ _ _)
  · iterate 2 rw [World.cell?_alloc_past _ _ _ (by simp only [World.size_alloc]; omega)]
    exact at' _ _ _ _ _ _ (by simp) rfl
  · iterate 5 rw [World.cell?_alloc_past _ _ _ (by simp only [World.size_alloc]; omega)]
    exact at' _ _ _ _ _ _ (by simp) h2
  · exact at' _ _ _ _ _ _ (by simp) (e66_56 _ _ _)
  · iterate 1 rw [World.cell?_alloc_past _ _ _ (by simp only [World.size_alloc]; omega)]
    exact at' _ _ _ _ _ _ (by simp) rfl
  · iterate 4 rw [World.cell?_alloc_past _ _ _ (by simp only [World.size_alloc]; omega)]
    exact at' _ _ _ _ _ _ (by simp) h3
  · exact at' _ _ _ _ _ _ (by simp) (e66_63 _ _ _)
  · exact at' _ _ _ _ _ _ (by simp) (e66_64 _ _ _)
  · exact fun o => World.frozen?_alloc_at _ _ _ _ (by simp)
  · simp
  · exact ((((((((Below.refl _ w).alloc (Nat.le_refl _) _).alloc (by simp only [World.size_alloc]; omega) _).alloc (by simp only [World.size_alloc]; omega) _).alloc (by simp only [World.size_alloc]; omega) _).alloc (by simp only [World.size_alloc]; omega) _).alloc (by simp only [World.size_alloc]; omega) _).alloc (by simp only [World.size_alloc]; omega) _).alloc (by simp only [World.size_alloc]; omega) _

set_option maxRecDepth 100000 in
set_option maxHeartbeats 1000000 in
theorem engine_any (l0 l1 l2 : Int) (w : World) :
    Calls Ybad.prog 5 #[.agg #[.int .u64 l0, .int .u64 l1, .int .u64 l2]] w fun e w' => e = .returned (.pointer (some ⟨w.heap.size + 7, 0, none⟩)) ∧ Made w w' l0 l1 l2 := by
  have z1 : Z128[0]? = some (.int .u64 0) := by kernel_rfl
  have z2 : Hid ((Z128.setIfInBounds 0 (Value.int .u64 l0))[1]? = some (.int .u64 0)) := by show _ = _; kernel_rfl
  have z3 : Hid ((Z128.setIfInBounds 0 (Value.int .u64 l0))[0]? = some (.int .u64 l0)) := by show _ = _; kernel_rfl
  go_enter Ybad.func5, Ybad.ntmps5
  go_wp2_with (refine wpList_build66 rfl rfl _ _ _ rfl rfl rfl ?_)
  go_ret
  exact ⟨rfl, made_of w l0 l1 l2 _ _ _ _ _ _ _ _ z3.out z2.out rfl rfl⟩
end Go.Proofs.YbulkdeduDoor

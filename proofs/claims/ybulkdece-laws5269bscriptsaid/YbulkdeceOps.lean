import Derived.Test.YbulkdeceW6
import Derived.ProofKit
import Derived.OpenShut
import Derived.ShutString
import Derived.ChangeOld
import Derived.Below
import Derived.Deep.Slices
namespace Go.Proofs.Ybulkdece
open Go.ChangeShapes Go.WideShapes Go.ChangeAt Go.RowKit Go.Deep

theorem own : ownKnob Yba.prog.godebug = none := by kernel_rfl
theorem laidOut : laidOutB Yba.prog = true := by kernel_rfl
theorem cells30 : Yba.prog.cellsOf 30 = 4 := by kernel_rfl
theorem cells5 : Yba.prog.cellsOf 5 = 1 := by kernel_rfl
theorem cells28 : Yba.prog.cellsOf 28 = 1 := by kernel_rfl
theorem cells3 : Yba.prog.cellsOf 3 = 1 := by kernel_rfl

/-- one step of the script, out of its reading -/
theorem open_op {H : Type} {enc : TypeId × Value → H} {W : World} {base : Nat} {spare : Nat → Bool} {held : Bool} {n : Nat} {a : Addr} {cs : List Value} {x : DataW H × List MemPlace}
    (h1 : W.cells? base a 4 = some cs) (h2 : DataW.trod enc Yba.prog W base spare held n 30 cs = some x) :
    ∃ op ii t r : Int, W.cell? (a.add 0) = some (.int .u8 op) ∧ W.cell? (a.add 1) = some (.int .u8 ii) ∧ W.cell? (a.add 2) = some (.int .u64 t) ∧ W.cell? (a.add 3) = some (.int .i64 r) ∧ 0 ≤ op ∧ op ≤ 255 ∧ 0 ≤ ii ∧ ii ≤ 255 := by
  obtain ⟨_, hlen, hc⟩ := World.cells?_some h1
  obtain ⟨xs, k, rfl, _, _, hxs, hf⟩ := DataW.trod_struct Yba.underlying30 h2
  match cs, hlen, xs, hxs with
  | [c0, c1, c2, c3], _, [x0, x1, x2, x3], _ =>
    have g0 := hf 0 _ rfl
    have g1 := hf 1 _ rfl
    have g2 := hf 2 _ rfl
    have g3 := hf 3 _ rfl
    replace g0 : DataW.trod enc Yba.prog W base spare held k 5 [c0] = some x0 := g0
    replace g1 : DataW.trod enc Yba.prog W base spare held k 5 [c1] = some x1 := g1
    replace g2 : DataW.trod enc Yba.prog W base spare held k 28 [c2] = some x2 := g2
    replace g3 : DataW.trod enc Yba.prog W base spare held k 3 [c3] = some x3 := g3
    obtain ⟨z0, e0, _, w0⟩ := DataW.trod_int Yba.underlying5 g0
    obtain ⟨z1, e1, _, w1⟩ := DataW.trod_int Yba.underlying5 g1
    obtain ⟨z2, e2, _, w2⟩ := DataW.trod_int Yba.underlying28 g2
    obtain ⟨z3, e3, _, w3⟩ := DataW.trod_int Yba.underlying3 g3
    simp only [List.cons.injEq, and_true] at e0 e1 e2 e3
    subst e0 e1 e2 e3
    have b0 := bounds_u8 w0
    have b1 := bounds_u8 w1
    exact ⟨z0, z1, z2, z3, (hc 0 (by omega)).trans rfl, (hc 1 (by omega)).trans rfl, (hc 2 (by omega)).trans rfl, (hc 3 (by omega)).trans rfl, by omega, by omega, by omega, by omega⟩

/-- the script, out of its reading -/
theorem open_ops {H : Type} {enc : TypeId × Value → H} {W : World} {held : Bool} {fuel : Nat} {a0 : Option Addr} {len cap : Nat} {x : DataW H × List MemPlace}
    (h : DataW.trod enc Yba.prog W 0 (fun _ => true) held fuel 22 [.slice a0 len cap] = some x) : ∃ op ii t r : Nat → Int, OpsAt W a0 len op ii t r := by
  rcases open_slice Yba.underlying22 h with ⟨hcs, _⟩ | ⟨a, len', cap', m, n, D, Pl, hcs, _, hl, hm, hmm, _, hx⟩
  · simp only [List.cons.injEq, Value.slice.injEq, and_true] at hcs
    obtain ⟨rfl, rfl, rfl⟩ := hcs
    exact ⟨fun _ => 0, fun _ => 0, fun _ => 0, fun _ => 0, fun j hj => by omega⟩
  · simp only [List.cons.injEq, Value.slice.injEq, and_true] at hcs
    obtain ⟨rfl, rfl, rfl⟩ := hcs
    simp only [if_true] at hmm
    subst hmm
    rw [cells30] at hx
    by_cases hl0 : len = 0
    · subst hl0
      exact ⟨fun _ => 0, fun _ => 0, fun _ => 0, fun _ => 0, fun j hj => by omega⟩
    obtain ⟨b', off, spot⟩ := a
    have hspot : spot = none := by
      obtain ⟨cs', h1, h2⟩ := hx 0 (by omega)
      obtain ⟨op, ii, t, r, g0, _⟩ := open_op h1 h2
      rw [add_add] at g0
      simpa [Addr.add] using World.cell?_spot g0
    subst hspot
    have key : ∀ j, j < len → ∃ q : Int × Int × Int × Int, ∃ b o, some (⟨b', off, none⟩ : Addr) = some (⟨b, o, none⟩ : Addr) ∧ b < W.heap.size ∧ W.cell? ⟨b, o + j * 4, none⟩ = some (.int .u8 q.1) ∧ W.cell? ⟨b, o + j * 4 + 1, none⟩ = some (.int .u8 q.2.1) ∧
        W.cell? ⟨b, o + j * 4 + 2, none⟩ = some (.int .u64 q.2.2.1) ∧ W.cell? ⟨b, o + j * 4 + 3, none⟩ = some (.int .i64 q.2.2.2) ∧ 0 ≤ q.1 ∧ q.1 ≤ 255 ∧ 0 ≤ q.2.1 ∧ q.2.1 ≤ 255 := by
      intro j hj
      obtain ⟨cs', h1, h2⟩ := hx j (by omega)
      obtain ⟨op, ii, t, r, g0, g1, g2, g3, b⟩ := open_op h1 h2
      rw [add_add, add_plain] at g0 g1 g2 g3
      refine ⟨(op, ii, t, r), b', off, rfl, Q_lt g0, ?_, ?_, ?_, ?_, b⟩
      · exact g0
      · rw [Nat.add_assoc]; exact g1
      · rw [Nat.add_assoc]; exact g2
      · rw [Nat.add_assoc]; exact g3
    obtain ⟨f, hf⟩ := choose_lt key
    exact ⟨fun j => (f j).1, fun j => (f j).2.1, fun j => (f j).2.2.1, fun j => (f j).2.2.2, hf⟩
end Go.Proofs.Ybulkdece

import Derived.Test.YbulkdeceW4
namespace Go.Proofs.Ybulkdece
open Go.RowKit Plain

/-- what 'make' lays -/
def M42 (m : Nat) : Array Value := madeCells (Value.agg #[.int .u64 0, .int .i64 0, .int .i64 0]).cells (m * 3)
def M1 (z : Value) (m : Nat) : Array Value := madeCells z.cells (m * 1)
theorem M42_get (m j : Nat) (hj : j < m) : (M42 m)[j * 3]? = some (.int .u64 0) ∧ (M42 m)[j * 3 + 1]? = some (.int .i64 0) ∧ (M42 m)[j * 3 + 2]? = some (.int .i64 0) := by
  have e0 : j * 3 % 3 = 0 := by omega
  have e1 : (j * 3 + 1) % 3 = 1 := by omega
  have e2 : (j * 3 + 2) % 3 = 2 := by omega
  refine ⟨?_, ?_, ?_⟩
  · simp [M42, madeCells, Value.cells, show j * 3 < m * 3 by omega, e0]
  · simp [M42, madeCells, Value.cells, show j * 3 + 1 < m * 3 by omega, e1]
  · simp [M42, madeCells, Value.cells, show j * 3 + 2 < m * 3 by omega, e2]
theorem M1_get (z : Value) (hz : z.cells = #[z]) (m j : Nat) (hj : j < m) : (M1 z m)[j]? = some z := by
  simp [M1, madeCells, hz, hj, Nat.mod_one]

theorem make38 (m : Nat) (hm : m ≤ 16) (w : World) : (Instr.makeSlice 38 (.int .i64 0) (.int .i64 m)).run Yba.prog w = .ok (.slice (some ⟨w.heap.size, 0, none⟩) 0 m) (w.alloc (.cells (M42 m) 42)) := by
  obtain ⟨i0, hi, hz0, hz1, hz2⟩ := info_parts Yba.info42
  have := run_make (P := Yba.prog) w 38 42 i0 _ Yba.underlying38 hi hz0 .i64 .i64 0 m (by omega) (by omega) (by rw [hz2]; omega) (by omega)
  rw [hz1] at this
  exact this
theorem make27 (m : Nat) (hm : m ≤ 16) (w : World) : (Instr.makeSlice 27 (.int .i64 m) (.int .i64 m)).run Yba.prog w = .ok (.slice (some ⟨w.heap.size, 0, none⟩) m m) (w.alloc (.cells (M1 (.int .i64 0) m) 3)) := by
  obtain ⟨i0, hi, hz0, hz1, hz2⟩ := info_parts Yba.info3
  have := run_make (P := Yba.prog) w 27 3 i0 _ Yba.underlying27 hi hz0 .i64 .i64 m m (by omega) (by omega) (by rw [hz2]; omega) (by omega)
  rw [hz1] at this
  exact this
theorem make26 (m : Nat) (hm : m ≤ 16) (w : World) : (Instr.makeSlice 26 (.int .i64 m) (.int .i64 m)).run Yba.prog w = .ok (.slice (some ⟨w.heap.size, 0, none⟩) m m) (w.alloc (.cells (M1 (.int .u64 0) m) 28)) := by
  obtain ⟨i0, hi, hz0, hz1, hz2⟩ := info_parts Yba.info28
  have := run_make (P := Yba.prog) w 26 28 i0 _ Yba.underlying26 hi hz0 .i64 .i64 m m (by omega) (by omega) (by rw [hz2]; omega) (by omega)
  rw [hz1] at this
  exact this
theorem make25 (m : Nat) (hm : m ≤ 16) (w : World) : (Instr.makeSlice 25 (.int .i64 m) (.int .i64 m)).run Yba.prog w = .ok (.slice (some ⟨w.heap.size, 0, none⟩) m m) (w.alloc (.cells (M1 (.bool false) m) 4)) := by
  obtain ⟨i0, hi, hz0, hz1, hz2⟩ := info_parts Yba.info4
  have := run_make (P := Yba.prog) w 25 4 i0 _ Yba.underlying25 hi hz0 .i64 .i64 m m (by omega) (by omega) (by rw [hz2]; omega) (by omega)
  rw [hz1] at this
  exact this

theorem QW.ext {w : World} {qb hb ab m n : Nat} {h : Nat → E} {A A' : Nat → Int} (hQ : QW w qb hb ab m n h A) (hA : ∀ i, i < m → A' i = A i) : QW w qb hb ab m n h A' :=
  ⟨hQ.qh, hQ.qa, hQ.qf, hQ.hf, hQ.af, hQ.ht, hQ.hr, hQ.hs, fun i hi => by rw [hA i hi]; exact hQ.ac i hi, hQ.nqh, hQ.nqa, hQ.nha, hQ.lq, hQ.lh, hQ.la⟩

theorem heap3 (w : World) (a b c : Obj) : (((w.alloc a).alloc b).alloc c).drew.heap[w.heap.size]? = some a ∧ (((w.alloc a).alloc b).alloc c).drew.heap[w.heap.size + 1]? = some b ∧ (((w.alloc a).alloc b).alloc c).drew.heap[w.heap.size + 1 + 1]? = some c := by
  refine ⟨?_, ?_, ?_⟩
  · show (((w.heap.push a).push b).push c)[_]? = _
    rw [Array.getElem?_push, if_neg (by simp; omega), Array.getElem?_push, if_neg (by simp), Array.getElem?_push, if_pos rfl]
  · show (((w.heap.push a).push b).push c)[_]? = _
    rw [Array.getElem?_push, if_neg (by simp), Array.getElem?_push, if_pos (by simp)]
  · show (((w.heap.push a).push b).push c)[_]? = _
    rw [Array.getElem?_push, if_pos (by simp)]

theorem cell_of_heap {w : World} {b o : Nat} {c : Array Value} {t : TypeId} (h : w.heap[b]? = some (.cells c t)) : w.cell? ⟨b, o, none⟩ = c[o]? := by
  simp [World.cell?, h]
theorem frozen_of_heap {w : World} {b o : Nat} {c : Array Value} {t : TypeId} (h : w.heap[b]? = some (.cells c t)) : w.frozen? ⟨b, o, none⟩ = false := by
  simp [World.frozen?, h]
theorem lt_of_heap {w : World} {b : Nat} {o : Obj} (h : w.heap[b]? = some o) : b < w.heap.size := (Array.getElem?_eq_some_iff.1 h).1

theorem QW.of_blocks {w : World} {qb hb ab m : Nat} (h1 : w.heap[qb]? = some (.cells #[.slice (some ⟨hb, 0, none⟩) 0 m, .slice (some ⟨ab, 0, none⟩) m m] 40))
    (h2 : w.heap[hb]? = some (.cells (M42 m) 42)) (h3 : w.heap[ab]? = some (.cells (M1 (.int .i64 0) m) 3)) (n1 : qb ≠ hb) (n2 : qb ≠ ab) (n3 : hb ≠ ab) : QW w qb hb ab m 0 (fun _ => ⟨0, 0, 0⟩) (fun _ => 0) :=
  ⟨(cell_of_heap h1).trans rfl, (cell_of_heap h1).trans rfl, fun _ => frozen_of_heap h1, fun _ => frozen_of_heap h2, fun _ => frozen_of_heap h3,
   fun j hj => (cell_of_heap h2).trans (M42_get m j hj).1, fun j hj => (cell_of_heap h2).trans (M42_get m j hj).2.1, fun j hj => (cell_of_heap h2).trans (M42_get m j hj).2.2,
   fun j hj => (cell_of_heap h3).trans (M1_get _ rfl m j hj), n1, n2, n3, lt_of_heap h1, lt_of_heap h2, lt_of_heap h3⟩

set_option maxRecDepth 100000 in
set_option maxHeartbeats 1000000 in
theorem new_any (m : Nat) (w : World) (hm : m ≤ 16) :
    Calls Yba.prog 5 #[.int .i64 m] w fun e w' =>
      ∃ qb hb ab, e = .returned (.pointer (some ⟨qb, 0, none⟩)) ∧ QW w' qb hb ab m 0 (fun _ => ⟨0, 0, 0⟩) (fun _ => -1) ∧ Below w.heap.size w w' ∧ w.heap.size ≤ qb ∧ w.heap.size ≤ hb ∧ w.heap.size ≤ ab := by
  have k38 := make38 m hm
  have k27 := make27 m hm
  go_enter Yba.func5, Yba.ntmps5
  go_upto_region 1 with fail
  go_cut [3] (fun v wr => ∃ qb hb ab, v = .pointer (some ⟨qb, 0, none⟩) ∧ QW wr qb hb ab m 0 (fun _ => ⟨0, 0, 0⟩) (fun _ => 0) ∧ Below w.heap.size w wr ∧ w.heap.size ≤ qb ∧ w.heap.size ≤ hb ∧ w.heap.size ≤ ab)
  case first =>
    go_region
    all_goals go_wp2
    all_goals go_meet
    · obtain ⟨g1, g2, g3⟩ := heap3 w (.cells (M42 m) 42) (.cells (M1 (.int .i64 0) m) 3) (.cells #[.slice (some ⟨w.heap.size, 0, none⟩) 0 m, .slice (some ⟨w.heap.size + 1, 0, none⟩) m m] 40)
      exact ⟨_, _, _, rfl, QW.of_blocks g3 g1 g2 (by omega) (by omega) (by omega), ((((Below.refl _ w).alloc (Nat.le_refl _) _).alloc (by simp) _).alloc (by simp; omega) _).drew, by omega, by omega, by omega⟩
    · obtain ⟨g1, g2, g3⟩ := heap3 w (.cells (M1 (.int .i64 0) m) 3) (.cells (M42 m) 42) (.cells #[.slice (some ⟨w.heap.size + 1, 0, none⟩) 0 m, .slice (some ⟨w.heap.size, 0, none⟩) m m] 40)
      exact ⟨_, _, _, rfl, QW.of_blocks g3 g2 g1 (by omega) (by omega) (by omega), ((((Below.refl _ w).alloc (Nat.le_refl _) _).alloc (by simp) _).alloc (by simp; omega) _).drew, by omega, by omega, by omega⟩
  case rest =>
    clear k38 k27
    obtain ⟨qb, hb, ab, rfl, hQ, hB, b1, b2, b3⟩ := hcut
    have qa := hQ.qa
    have HQ : Hid (QW wc qb hb ab m 0 (fun _ => ⟨0, 0, 0⟩) (fun _ => 0)) := hQ
    have HB : Hid (Below w.heap.size w wc) := hB
    clear hQ hB
    go_wp2
    go_loopw [16] (fun iv wr => ∃ (k : Nat), k ≤ m ∧ iv = .int .i64 k ∧ QW wr qb hb ab m 0 (fun _ => ⟨0, 0, 0⟩) (fun i => if i < k then -1 else 0) ∧ Below w.heap.size w wr)
      (fun iv _ => m - (intOf iv).toNat)
    case atStart => exact ⟨0, by omega, rfl, HQ.out.ext (fun i _ => by simp), HB.out⟩
    case round =>
      obtain ⟨k, hk, rfl, hQ, hB⟩ := hrel
      have HQ' : Hid (QW wr qb hb ab m 0 (fun _ => ⟨0, 0, 0⟩) (fun i => if i < k then -1 else 0)) := hQ
      have HB' : Hid (Below w.heap.size w wr) := hB
      have qa' := hQ.qa
      clear qa HQ HB
      by_cases hlt : k < m
      · have c0 := hQ.ac k hlt
        have f0 := hQ.af
        clear hQ hB
        go_wp2
        go_roundw
        case rel => exact ⟨k + 1, by omega, by go_num, (HQ'.out.setA hlt (-1)).ext (fun i _ => by unfold upd; by_cases e : i = k <;> by_cases e' : i < k <;> simp [e, e'] <;> omega), HB'.out.setCell b3 _⟩
        case measure => simp [intOf]; omega
      · have hkm : k = m := by omega
        subst hkm
        clear hQ hB
        go_wp2
        go_ret
        exact ⟨qb, hb, ab, rfl, HQ'.out.ext (fun i hi => by simp [hi]), HB'.out, b1, b2, b3⟩
end Go.Proofs.Ybulkdece

import Derived.Test.YbulkdeduDoorC3
import Derived.Test.YbulkdeduDoorF
import Derived.Laws.MakeOwn
namespace Go.Proofs.YbulkdeduDoor
open Go.RowKit Go.ChangeMaps Go.MapKept

theorem make_gaps (w : World) (m : Nat) (hm : m ≤ 512) : (Instr.makeSlice 72 (.int .i64 m) (.int .i64 m)).run Ybad.prog w = .ok (.slice (some ⟨w.heap.size, 0, none⟩) m m) (w.alloc (.cells (madeCells #[.int .u64 0, .int .u64 0] (m * 2)) 78)) := by
  obtain ⟨i0, hi, hz0, hz1, hz2⟩ := info_parts Ybad.info78
  have h := run_make (P := Ybad.prog) w 72 78 i0 _ Ybad.underlying72 hi hz0 .i64 .i64 m m (by omega) (Int.le_refl _) (by rw [hz2]; omega) (by omega)
  simp only [Int.toNat_natCast, hz1] at h
  exact h

theorem copy_gaps (w : World) (ty : TypeId) (d g : Nat) (ao : Option Addr) (m cp : Nat) (F : Nat → Int) (h : GapsAt w g ao m cp F) (hc : ∀ j, j < 2 * m → (w.cell? ⟨d, j, none⟩).isSome = true) (hf : ∀ j, j < 2 * m → w.frozen? ⟨d, j, none⟩ = false) :
    (Builtin.copy_ #[72, 72] ty #[.slice (some ⟨d, 0, none⟩) m m, .slice ao m cp]).run Ybad.prog w = .ok (.int .i64 m) (w.setCells d 0 (nums (2 * m) F)) := by
  obtain ⟨i0, hi, hz0, hz1, hz2⟩ := info_parts Ybad.info78
  have hst := run_storeCells_cells (P := Ybad.prog) d 0 (nums (2 * m) F) 0 w (by rw [nums_len]; simpa using hc) (by rw [nums_len]; simpa using hf) nums_one
  simp only [Nat.add_zero] at hst
  cases ao with
  | none =>
    obtain ⟨rfl, rfl⟩ := h.nil rfl
    simp [Builtin.copy_, run_underlying Ybad.underlying72, Builtin.lenOf, Builtin.firstCells, sizeOf, typeInfo, hi, storeCells, goInt, nums, World.setCells]
  | some a =>
    obtain rfl := h.at' a rfl
    have hfc := run_firstCells_some (P := Ybad.prog) w 2 m ⟨g, 0, none⟩ m cp (nums (2 * m) F) (by rw [nums_len]; omega) (fun j v hv => by
      obtain ⟨hj, rfl⟩ := nums_at hv
      rw [Addr.add_lit, Nat.zero_add]; exact h.cell j hj)
    simp [Builtin.copy_, run_underlying Ybad.underlying72, Builtin.lenOf, sizeOf, typeInfo, hi, hz1, hfc, hst, goInt]

theorem e76_3 (f : Nat → Int) {k : Nat} (hk : k < 3) : ([.int .u64 (f 0), .int .u64 (f 1), .int .u64 (f 2), .slice none 0 0, .slice none 0 0, .slice none 0 0, .int .u64 0, .int .u64 0, .int .u64 0, .int .u64 0, .int .u64 0, .int .u64 0, .int .u64 0, .int .u64 0, .int .u64 0] : List Value)[3 + k]? = some (.slice none 0 0) := by
  obtain rfl | rfl | rfl : k = 0 ∨ k = 1 ∨ k = 2 := by omega
  all_goals rfl

/-- the envelope's cells, no latest said -/
noncomputable def E42b (kb : Int) (seq : Int) (after : Bool) : Array Value :=
  (Ybad.prog.built 42 [(0, .int .u8 kb), (1, .int .i64 0), (2, .int .u64 seq), (10, .bool after)]).getD #[]
theorem e42b_some (kb : Int) (seq : Int) (after : Bool) : (Ybad.prog.built 42 [(0, .int .u8 kb), (1, .int .i64 0), (2, .int .u64 seq), (10, .bool after)]).isSome = true := by kernel_rfl
theorem Ybad.build42b (kb : Int) (seq : Int) (after : Bool) (w : World) : (Instr.build 42 #[(0, .int .u8 kb), (1, .int .i64 0), (2, .int .u64 seq), (10, .bool after)]).run Ybad.prog w = .ok (.agg (E42b kb seq after)) w := by
  obtain ⟨cs, hcs⟩ := Option.isSome_iff_exists.1 (e42b_some kb seq after)
  rw [run_build w 42 _ cs hcs]
  unfold E42b
  rw [hcs]
  rfl
theorem e42b_0 (kb : Int) (seq : Int) (after : Bool) : (E42b kb seq after)[0]? = some (.int .u8 kb) := by kernel_rfl
theorem e42b_1 (kb : Int) (seq : Int) (after : Bool) : (E42b kb seq after)[1]? = some (.int .i64 0) := by kernel_rfl
theorem e42b_2 (kb : Int) (seq : Int) (after : Bool) : (E42b kb seq after)[2]? = some (.int .u64 seq) := by kernel_rfl
theorem e42b_11 (kb : Int) (seq : Int) (after : Bool) : (E42b kb seq after)[11]? = some (.bool after) := by kernel_rfl
theorem e42b_12 (kb : Int) (seq : Int) (after : Bool) : (E42b kb seq after)[12]? = some (.int .u64 0) := by kernel_rfl
theorem e42b_13 (kb : Int) (seq : Int) (after : Bool) : (E42b kb seq after)[13]? = some (.int .u64 0) := by kernel_rfl
theorem e42b_14 (kb : Int) (seq : Int) (after : Bool) : (E42b kb seq after)[14]? = some (.int .u64 0) := by kernel_rfl

theorem wpList_ins0 {ops : Array Oper} {rest : List Oper} {o : Oper} {a : Act} {w : World} {Q : Exit → Act → World → Prop} (hg : o.guard = none) (m x v : Operand) (hop : o.op = Op.insert 60 m x v) (mb : Nat) (val : Value)
    (hm : a.eval m = .map (some mb)) (hx : a.eval x = .int .i64 0) (hv : a.eval v = val) (hb : w.heap[mb]? = some (.map #[] 0))
    (hK : wpList Ybad.prog ops Q rest (a.put o.dst undef) (setBlock w mb (.map #[ent val] 1))) : wpList Ybad.prog ops Q (o :: rest) a w := by
  refine wpList_plain hg fun K' hK' => ?_
  have hrun := mapUpd0 w mb val hb
  unfold Oper.wp
  simp [execOp, hop, hm, hx, hv, hrun, Result.andThen]
  exact hK' _ _ hK

/-- the array of the slice of u16 handed in -/
def StepsAt (w : World) (so : Option Addr) (sl : Nat) (z : Nat → Int) : Prop := ∀ j, j < sl → ∃ b off, so = some ⟨b, off, none⟩ ∧ b < w.heap.size ∧ w.cell? ⟨b, off + j, none⟩ = some (.int .u16 (z j))

/-- m gaps laid by 'append' so far -/
structure Ap (w M : World) (gv : Value) (m : Nat) (F l f : Nat → Int) : Prop where
  own : M.ownsRow (w.heap.size + 2) 78 2 gv m (nums (2 * m) F)
  bel : Below w.heap.size w M
  last : Three M w.heap.size 0 l
  flo : Three M (w.heap.size + 1) 0 f
  sz : w.heap.size + 2 ≤ M.heap.size

theorem Ap.init (w : World) (l f : Nat → Int) (a b : TypeId) (F : Nat → Int) : Ap w ((w.alloc (.cells #[.int .u64 (l 0), .int .u64 (l 1), .int .u64 (l 2)] a)).alloc (.cells #[.int .u64 (f 0), .int .u64 (f 1), .int .u64 (f 2)] b)) (.slice none 0 0) 0 F l f := by
  refine ⟨⟨by simp [nums], .inl ⟨rfl, rfl⟩⟩, ((Below.refl _ w).alloc (Nat.le_refl _) _).alloc (by simp) _, fun i hi => ?_, fun i hi => ?_, by simp⟩
  · rw [World.cell?_alloc_past _ _ _ (by simp), World.cell?_alloc_at _ _ _ _ rfl]
    obtain rfl | rfl | rfl : i = 0 ∨ i = 1 ∨ i = 2 := by omega
    all_goals rfl
  · rw [World.cell?_alloc_at _ _ _ _ (by simp)]
    obtain rfl | rfl | rfl : i = 0 ∨ i = 1 ∨ i = 2 := by omega
    all_goals rfl

theorem nums_snoc (m : Nat) (F : Nat → Int) (a u : Int) : nums (2 * m) F ++ [.int .u64 a, .int .u64 u] = nums (2 * (m + 1)) (fun j => if j < 2 * m then F j else if j = 2 * m then a else u) := by
  rw [show 2 * (m + 1) = 2 * m + 2 by omega]
  unfold nums
  rw [List.range_succ, List.range_succ, List.map_append, List.map_append]
  simp only [List.map_cons, List.map_nil, List.append_assoc, List.cons_append, List.nil_append]
  congr 1
  · apply List.map_congr_left
    intro j hj
    rw [if_pos (by simpa using hj)]
  · rw [if_neg (by omega), if_pos trivial, if_neg (by omega), if_neg (by omega)]

/-- one gap more: a new block of its own (the list literal), then 'append' -/
theorem Ap.step {w M N X : World} {gv gv' : Value} {m : Nat} {F l f : Nat → Int} {a u : Int} (h : Ap w M gv m F l f) (hN : Grew M N) (ho : X.ownsRow (w.heap.size + 2) 78 2 gv' (m + 1) (nums (2 * m) F ++ [.int .u64 a, .int .u64 u])) (hg : N.grownBy X gv.ownBlock) :
    ∃ F', Ap w X gv' (m + 1) F' l f := by
  have hb : Below (w.heap.size + 2) N X := (Below.refl _ N).grown hg (by have := h.sz; have := hN.bel.size; omega) (fun k e => by
    rcases h.own.2 with ⟨rfl, _⟩ | ⟨g, cap, cur, rfl, hg1, _⟩
    · cases e
    · cases e; exact hg1)
  have hsz := h.sz
  have hNz : M.heap.size ≤ N.heap.size := hN.bel.size
  refine ⟨_, ⟨by rw [nums_snoc] at ho; exact ho, h.bel.trans ((hN.bel.mono (by omega)).trans (hb.mono (by omega))), h.last.keep (fun i _ => ?_), h.flo.keep (fun i _ => ?_), by have := hb.size; omega⟩⟩
  · rw [hb.cell (p := ⟨w.heap.size, 0 + i, none⟩) (by show w.heap.size < _; omega)]; exact hN.cell _ _ (by omega)
  · rw [hb.cell (p := ⟨w.heap.size + 1, 0 + i, none⟩) (by show w.heap.size + 1 < _; omega)]; exact hN.cell _ _ (by omega)

theorem Ap.gaps {w M : World} {gv : Value} {m : Nat} {F l f : Nat → Int} (h : Ap w M gv m F l f) : ∃ ao cp g, gv = .slice ao m cp ∧ GapsAt M g ao m cp F ∧ (ao ≠ none → w.heap.size + 2 ≤ g ∧ g < M.heap.size) := by
  have hown := h.own
  rcases hown.2 with ⟨rfl, rfl⟩ | ⟨g, cap, cur, rfl, hg1, hg2, hg3, _, _, _⟩
  · exact ⟨none, 0, 0, rfl, ⟨Nat.le_refl _, fun _ => ⟨rfl, rfl⟩, (fun a e => by cases e), fun j hj => by omega, fun j hj => by omega⟩, fun h => absurd rfl h⟩
  · refine ⟨some ⟨g, 0, none⟩, cap, g, rfl, ⟨hg3, (fun e => by cases e), (fun a e => by cases e; rfl), fun j hj => ?_, fun j hj => ?_⟩, fun _ => ⟨hg1, (hown.lt _ rfl).2⟩⟩
    · have := hown.cellAt j (by omega)
      simpa [nums, hj] using this
    · simp [World.frozen?, hg2]
end Go.Proofs.YbulkdeduDoor

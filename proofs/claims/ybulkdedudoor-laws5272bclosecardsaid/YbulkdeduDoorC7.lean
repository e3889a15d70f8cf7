import Derived.Test.YbulkdeduDoorBd
import Derived.Test.YbulkdeduDoorC5
namespace Go.Proofs.YbulkdeduDoor
open Go.RowKit Go.ChangeMaps Go.MapKept

/-- behind make and copy -/
structure Ga (w M : World) (g mB : Nat) (ao : Option Addr) (m cp : Nat) (F l f : Nat → Int) : Prop where
  bel : Below w.heap.size w M
  last : Three M w.heap.size 0 l
  flo : Three M (w.heap.size + 1) 0 f
  gaps : GapsAt M g ao m cp F
  g1 : ao ≠ none → w.heap.size + 2 ≤ g ∧ g < M.heap.size
  mine : ∀ j, j < 2 * m → M.cell? ⟨mB, j, none⟩ = some (.int .u64 (F j))
  m1 : w.heap.size + 2 ≤ mB ∧ mB < M.heap.size ∧ (ao ≠ none → mB ≠ g)

section
variable {w M N X : World} {n g mB bb k kb : Nat} {ao : Option Addr} {m cp c : Nat} {F l f : Nat → Int} {gb seq L : Int}

theorem Ga.of (h : Ap w M (.slice ao m cp) m F l f) (hG : GapsAt M g ao m cp F) (hg1 : ao ≠ none → w.heap.size + 2 ≤ g ∧ g < M.heap.size) (Z : Array Value) (hZ : Z.size = m * 2) (ty : TypeId) :
    Ga w ((M.alloc (.cells Z ty)).setCells M.heap.size 0 (nums (2 * m) F)) g M.heap.size ao m cp F l f ∧ GapsAt (M.alloc (.cells Z ty)) g ao m cp F ∧ (∀ j, j < 2 * m → ((M.alloc (.cells Z ty)).cell? ⟨M.heap.size, j, none⟩).isSome = true) ∧ (∀ j, j < 2 * m → (M.alloc (.cells Z ty)).frozen? ⟨M.heap.size, j, none⟩ = false) := by
  have hsz := h.sz
  have hA := Grew.alloc M (.cells Z ty)
  have c : ∀ b o, b < M.heap.size → ((M.alloc (.cells Z ty)).setCells M.heap.size 0 (nums (2 * m) F)).cell? ⟨b, o, none⟩ = M.cell? ⟨b, o, none⟩ := fun b o hb => by
    rw [World.cell?_setCells_out _ _ _ _ _ (fun e _ => by have e' : b = M.heap.size := e; omega)]; exact hA.cell b o hb
  have some' : ∀ j, j < 2 * m → ((M.alloc (.cells Z ty)).cell? ⟨M.heap.size, j, none⟩).isSome = true := fun j hj => by
    rw [World.cell?_alloc_at _ _ _ _ rfl, Array.getElem?_eq_getElem (by omega)]; rfl
  refine ⟨⟨?_, h.last.keep (fun i _ => c _ _ (by omega)), h.flo.keep (fun i _ => c _ _ (by omega)), ?_, fun ha => ?_, fun j hj => ?_, by omega, ?_, fun ha => by have := hg1 ha; omega⟩, ?_, some', fun j _ => World.frozen?_alloc_at _ _ _ _ rfl⟩
  · exact below_setCells' _ (by omega) _ _ (h.bel.alloc (by omega) _)
  · refine hG.keep' (fun ha j => c _ _ (hg1 ha).2) (fun ha j => ?_)
    rw [World.frozen?_setCells]; exact hA.fr _ _ (hg1 ha).2
  · have := hg1 ha; rw [size_setCells', World.size_alloc]; omega
  · have h1 := World.cell?_setCells_in M.heap.size (nums (2 * m) F) 0 (M.alloc (.cells Z ty)) (fun t ht => by rw [Nat.zero_add]; rw [nums_len] at ht; exact some' t ht) j (by rw [nums_len]; exact hj)
    rw [Nat.zero_add] at h1
    refine h1.trans ?_
    simp [nums]
  · rw [size_setCells', World.size_alloc]; omega
  · exact hG.keep' (fun ha j => hA.cell _ _ (hg1 ha).2) (fun ha j => hA.fr _ _ (hg1 ha).2)

theorem Ga.grew (h : Ga w M g mB ao m cp F l f) (hg : Grew M N) : Ga w N g mB ao m cp F l f := by
  obtain ⟨m1, m2, m3⟩ := h.m1
  have hz := hg.bel.size
  exact ⟨h.bel.trans (hg.bel.mono (by omega)), h.last.keep (fun i _ => hg.cell _ _ (by omega)), h.flo.keep (fun i _ => hg.cell _ _ (by omega)), h.gaps.keep' (fun ha j => hg.cell _ _ (h.g1 ha).2) (fun ha j => hg.fr _ _ (h.g1 ha).2), fun ha => ⟨(h.g1 ha).1, Nat.lt_of_lt_of_le (h.g1 ha).2 hz⟩, fun j hj => (hg.cell _ _ m2).trans (h.mine j hj), m1, by omega, m3⟩

/-- behind the bounds' making -/
structure Gb (w M : World) (g mB bb k : Nat) (ao : Option Addr) (m cp : Nat) (F l f : Nat → Int) : Prop where
  ga : Ga w M g mB ao m cp F l f
  floor : Three M bb 0 f
  gapk : M.cell? ⟨bb, 3 + k, none⟩ = some (.slice ao m cp)
  gapo : ∀ i, i < 3 → i ≠ k → M.cell? ⟨bb, 3 + i, none⟩ = some (.slice none 0 0)
  said : ∀ i, i < 9 → M.cell? ⟨bb, 6 + i, none⟩ = some (.int .u64 0)
  fr : ∀ o, M.frozen? ⟨bb, o, none⟩ = false
  o1 : mB < bb
  o2 : bb < M.heap.size
  o3 : ao ≠ none → g < bb
  o4 : w.heap.size + 2 ≤ bb
theorem Gb.of (h : Ga w M g mB ao m cp F l f) (hk : k < 3) (ty : TypeId) :
    Gb w (M.alloc (.cells (([.int .u64 (f 0), .int .u64 (f 1), .int .u64 (f 2), .slice none 0 0, .slice none 0 0, .slice none 0 0, .int .u64 0, .int .u64 0, .int .u64 0, .int .u64 0, .int .u64 0, .int .u64 0, .int .u64 0, .int .u64 0, .int .u64 0] : List Value).set (3 + k) (.slice ao m cp)).toArray ty)) g mB M.heap.size k ao m cp F l f := by
  obtain ⟨m1, m2, m3⟩ := h.m1
  have c : ∀ (i : Nat) (v : Value), (([.int .u64 (f 0), .int .u64 (f 1), .int .u64 (f 2), .slice none 0 0, .slice none 0 0, .slice none 0 0, .int .u64 0, .int .u64 0, .int .u64 0, .int .u64 0, .int .u64 0, .int .u64 0, .int .u64 0, .int .u64 0, .int .u64 0] : List Value).set (3 + k) (.slice ao m cp)).toArray[i]? = some v → (M.alloc (.cells (([.int .u64 (f 0), .int .u64 (f 1), .int .u64 (f 2), .slice none 0 0, .slice none 0 0, .slice none 0 0, .int .u64 0, .int .u64 0, .int .u64 0, .int .u64 0, .int .u64 0, .int .u64 0, .int .u64 0, .int .u64 0, .int .u64 0] : List Value).set (3 + k) (.slice ao m cp)).toArray ty)).cell? ⟨M.heap.size, i, none⟩ = some v := fun i v hv => (World.cell?_alloc_at _ _ _ _ rfl).trans hv
  refine ⟨h.grew (Grew.alloc _ _), fun i hi => c _ _ ?_, c _ _ ?_, fun i hi hik => c _ _ ?_, fun i hi => c _ _ ?_, fun _ => World.frozen?_alloc_at _ _ _ _ rfl, m2, by simp, fun ha => (h.g1 ha).2, by omega⟩
  · obtain rfl | rfl | rfl : i = 0 ∨ i = 1 ∨ i = 2 := by omega
    all_goals
      obtain rfl | rfl | rfl : k = 0 ∨ k = 1 ∨ k = 2 := by omega
      all_goals rfl
  · obtain rfl | rfl | rfl : k = 0 ∨ k = 1 ∨ k = 2 := by omega
    all_goals rfl
  · obtain rfl | rfl | rfl : i = 0 ∨ i = 1 ∨ i = 2 := by omega
    all_goals
      obtain rfl | rfl | rfl : k = 0 ∨ k = 1 ∨ k = 2 := by omega
      all_goals first | rfl | exact absurd rfl hik
  · obtain rfl | rfl | rfl | rfl | rfl | rfl | rfl | rfl | rfl : i = 0 ∨ i = 1 ∨ i = 2 ∨ i = 3 ∨ i = 4 ∨ i = 5 ∨ i = 6 ∨ i = 7 ∨ i = 8 := by omega
    all_goals
      obtain rfl | rfl | rfl : k = 0 ∨ k = 1 ∨ k = 2 := by omega
      all_goals rfl
theorem Gb.grew (h : Gb w M g mB bb k ao m cp F l f) (hg : Grew M N) : Gb w N g mB bb k ao m cp F l f :=
  ⟨h.ga.grew hg, h.floor.keep (fun _ _ => hg.cell _ _ h.o2), (hg.cell _ _ h.o2).trans h.gapk, fun i hi hk => (hg.cell _ _ h.o2).trans (h.gapo i hi hk), fun i hi => (hg.cell _ _ h.o2).trans (h.said i hi), fun o => (hg.fr _ _ h.o2).trans (h.fr o), h.o1, Nat.lt_of_lt_of_le h.o2 hg.bel.size, h.o3, h.o4⟩

/-- the engine with its map -/
structure Gc (w M : World) (n g mB bb k : Nat) (ao : Option Addr) (m cp : Nat) (F l f : Nat → Int) (gb : Int) : Prop where
  gb' : Gb w M g mB bb k ao m cp F l f
  eng : Eng M n (l 0) (l 1) (l 2)
  map : M.cell? ⟨n + 7, 63, none⟩ = some (.map (some (n + 8)))
  obj : M.heap[n + 8]? = some (.map #[ent (.pointer (some ⟨bb, 0, none⟩))] 1)
  gap : M.cell? ⟨n + 7, 64, none⟩ = some (.int .i64 gb)
  fr : ∀ o, M.frozen? ⟨n + 7, o, none⟩ = false
  o1 : bb < n
  o2 : n + 8 < M.heap.size

theorem Gc.of (h : Gb w M g mB bb k ao m cp F l f) (hM : Made M X (l 0) (l 1) (l 2)) :
    Gc w ((setBlock ((X.setCell ⟨M.heap.size + 7, 64, none⟩ (.int .i64 gb)).alloc (.map #[] 0)) X.heap.size (.map #[ent (.pointer (some ⟨bb, 0, none⟩))] 1)).setCell ⟨M.heap.size + 7, 63, none⟩ (.map (some X.heap.size))) M.heap.size g mB bb k ao m cp F l f gb := by
  have hz := hM.sz
  have hA : ((X.setCell ⟨M.heap.size + 7, 64, none⟩ (.int .i64 gb)).alloc (.map #[] 0)).heap[X.heap.size]? = some (.map #[] 0) := by
    have := heap_alloc_new (X.setCell ⟨M.heap.size + 7, 64, none⟩ (.int .i64 gb)) (.map #[] 0)
    rwa [World.size_setCell] at this
  have c : ∀ b o, b < X.heap.size → (b ≠ M.heap.size + 7 ∨ (o ≠ 63 ∧ o ≠ 64)) → ((setBlock ((X.setCell ⟨M.heap.size + 7, 64, none⟩ (.int .i64 gb)).alloc (.map #[] 0)) X.heap.size (.map #[ent (.pointer (some ⟨bb, 0, none⟩))] 1)).setCell ⟨M.heap.size + 7, 63, none⟩ (.map (some X.heap.size))).cell? ⟨b, o, none⟩ = X.cell? ⟨b, o, none⟩ := fun b o hb hn => by
    rw [other _ (by omega), setBlock_cell hA, World.cell?_alloc_past _ _ _ (by rw [World.size_setCell]; exact hb), other _ (by omega)]
  have hB : Below M.heap.size M ((setBlock ((X.setCell ⟨M.heap.size + 7, 64, none⟩ (.int .i64 gb)).alloc (.map #[] 0)) X.heap.size (.map #[ent (.pointer (some ⟨bb, 0, none⟩))] 1)).setCell ⟨M.heap.size + 7, 63, none⟩ (.map (some X.heap.size))) :=
    (setBlock_below ((hM.bel.setCell (p := ⟨M.heap.size + 7, 64, none⟩) (by show M.heap.size ≤ M.heap.size + 7; omega) _).alloc (by rw [World.size_setCell]; omega) _) hA (by omega) _).setCell (p := ⟨M.heap.size + 7, 63, none⟩) (by show M.heap.size ≤ M.heap.size + 7; omega) _
  have hsz : (setBlock ((X.setCell ⟨M.heap.size + 7, 64, none⟩ (.int .i64 gb)).alloc (.map #[] 0)) X.heap.size (.map #[ent (.pointer (some ⟨bb, 0, none⟩))] 1)).heap.size = X.heap.size + 1 := by
    show (Array.setIfInBounds _ _ _).size = _
    rw [Array.size_setIfInBounds, World.size_alloc, World.size_setCell]
  refine ⟨h.grew (Grew.of hB), hM.eng.keep (fun b o hb hn => c b o (by omega) hn), ?_, ?_, ?_, fun o => ?_, h.o2, ?_⟩
  · have h0 : (setBlock ((X.setCell ⟨M.heap.size + 7, 64, none⟩ (.int .i64 gb)).alloc (.map #[] 0)) X.heap.size (.map #[ent (.pointer (some ⟨bb, 0, none⟩))] 1)).cell? ⟨M.heap.size + 7, 63, none⟩ = some (.map none) := by
      rw [setBlock_cell hA, World.cell?_alloc_past _ _ _ (by rw [World.size_setCell]; omega), other _ (by omega)]; exact hM.bounds
    rw [World.cell?_setCell_same _ _ _ h0, hz]
  · rw [Below.heap_setCell _ _ _ _ (by simp), ← hz]; exact heap_setBlock_same hA _
  · rw [other _ (by omega), setBlock_cell hA, World.cell?_alloc_past _ _ _ (by rw [World.size_setCell]; omega)]; exact World.cell?_setCell_same _ _ _ hM.gap
  · rw [World.frozen?_setCell, setBlock_frozen hA, World.frozen?_alloc_past _ _ _ (by rw [World.size_setCell]; omega), World.frozen?_setCell]; exact hM.fr o
  · rw [World.size_setCell, hsz]; omega
theorem Gc.grew (h : Gc w M n g mB bb k ao m cp F l f gb) (hg : Grew M N) : Gc w N n g mB bb k ao m cp F l f gb := by
  have := h.o2
  exact ⟨h.gb'.grew hg, h.eng.keep (fun b o hb _ => hg.cell b o (by omega)), (hg.cell _ _ (by omega)).trans h.map, (hg.bel.block _ h.o2).trans h.obj, (hg.cell _ _ (by omega)).trans h.gap, fun o => (hg.fr _ _ (by omega)).trans (h.fr o), h.o1, Nat.lt_of_lt_of_le h.o2 hg.bel.size⟩
theorem Gc.bd (h : Gc w M n g mB bb k ao m cp F l f gb) : Bd M w.heap.size n g bb (n + 8) k ao m cp F f gb := by
  have q1 := h.o1
  have q2 := h.o2
  have q3 := h.gb'.o4
  refine ⟨h.map, h.obj, h.gap, h.gb'.floor, h.gb'.gapk, h.gb'.gapo, h.gb'.said, h.gb'.ga.gaps, fun b o hb => ?_, by omega, by omega, by omega, by omega, by omega, q2, by omega, by omega, by omega, fun ha => ?_⟩
  · rcases hb with rfl | rfl
    · exact h.gb'.fr o
    · exact h.fr o
  · have := h.gb'.ga.g1 ha
    have := h.gb'.o3 ha
    omega
theorem Gc.env (h : Gc w M n g mB bb k ao m cp F l f gb) (after : Bool) (h256 : kb < 256) (hc : w.cell? ⟨0, kb, none⟩ = some (.int .u8 k)) (h0 : 0 < w.heap.size) (ty : TypeId) : Env (M.alloc (.cells (E42b kb seq after) ty)) M.heap.size kb k seq after (fun _ => 0) := by
  have at' : ∀ (i : Nat) (v : Value), (E42b kb seq after)[i]? = some v → (M.alloc (.cells (E42b kb seq after) ty)).cell? ⟨M.heap.size, i, none⟩ = some v := fun i v hv => (World.cell?_alloc_at _ _ _ _ rfl).trans hv
  have hsz : w.heap.size ≤ M.heap.size := h.gb'.ga.bel.size
  refine ⟨at' _ _ (e42b_0 _ _ _), at' _ _ (e42b_1 _ _ _), at' _ _ (e42b_2 _ _ _), at' _ _ (e42b_11 _ _ _), at' _ _ (e42b_12 _ _ _), at' _ _ (e42b_13 _ _ _), at' _ _ (e42b_14 _ _ _), ?_, h256⟩
  rw [World.cell?_alloc_past _ _ _ (by show 0 < M.heap.size; omega)]
  exact (h.gb'.ga.bel.cell (p := ⟨0, kb, none⟩) h0).trans hc

/-- behind takeLatest: all that the law reads -/
structure Gd (w M : World) (n g mB bb k : Nat) (ao : Option Addr) (m cp c : Nat) (F l f : Nat → Int) (gb seq : Int) : Prop where
  isC : IsC F (mx (l k) seq) m c
  map : M.cell? ⟨n + 7, 63, none⟩ = some (.map (some (n + 8)))
  obj : M.heap[n + 8]? = some (.map (if c = m then #[] else #[ent (.pointer (some ⟨bb, 0, none⟩))]) 1)
  gap : M.cell? ⟨n + 7, 64, none⟩ = some (.int .i64 (IntKind.i64.wrap (gb - IntKind.i64.wrap (16 * c))))
  floor : Three M bb 0 (fun i => if i = k then flC F (f k) c else mx (f i) seq)
  gapk : M.cell? ⟨bb, 3 + k, none⟩ = some (.slice ao (m - c) cp)
  gapo : ∀ i, i < 3 → i ≠ k → M.cell? ⟨bb, 3 + i, none⟩ = some (.slice none 0 0)
  said : ∀ i, i < 9 → M.cell? ⟨bb, 6 + i, none⟩ = some (.int .u64 0)
  cells : ∀ j, j < 2 * (m - c) → M.cell? ⟨g, j, none⟩ = some (.int .u64 (F (2 * c + j)))
  mine : ∀ j, j < 2 * m → M.cell? ⟨mB, j, none⟩ = some (.int .u64 (F j))
  last : Three M w.heap.size 0 l
  flo : Three M (w.heap.size + 1) 0 f
  nil : ao = none → m = 0
  at' : ∀ a, ao = some a → a = ⟨g, 0, none⟩
  le : m ≤ cp
  bel : Below w.heap.size w M
  o1 : bb < n
  o2 : n + 8 < M.heap.size
  o3 : w.heap.size + 2 ≤ mB ∧ mB < bb
  o4 : ao ≠ none → g < bb
theorem Gd.of (h : Gc w M n g mB bb k ao m cp F l f gb) (hT : TookC M N w.heap.size n g bb (n + 8) k ao m cp c F f gb seq (mx (l k) seq)) : Gd w N n g mB bb k ao m cp c F l f gb seq := by
  have q1 := h.o1
  have q2 := h.o2
  have q3 := h.gb'.o1
  obtain ⟨m1, m2, m3⟩ := h.gb'.ga.m1
  refine ⟨hT.isC, hT.map, hT.obj, hT.gap, hT.floor, hT.gapk, hT.gapo, hT.said, hT.cells, fun j hj => ?_, h.gb'.ga.last.keep (fun i _ => ?_), h.gb'.ga.flo.keep (fun i _ => ?_), fun e => (h.gb'.ga.gaps.nil e).1, h.gb'.ga.gaps.at', h.gb'.ga.gaps.le, h.gb'.ga.bel.trans hT.bel, q1, Nat.lt_of_lt_of_le q2 hT.bel.size, ⟨m1, q3⟩, h.gb'.o3⟩
  · rw [hT.same mB j m2 (by omega) (by omega) m3]; exact h.gb'.ga.mine j hj
  · exact hT.same _ _ (by omega) (by omega) (by omega) (fun ha => by have := h.gb'.ga.g1 ha; omega)
  · exact hT.same _ _ (by omega) (by omega) (by omega) (fun ha => by have := h.gb'.ga.g1 ha; omega)
theorem Gd.grew (h : Gd w M n g mB bb k ao m cp c F l f gb seq) (hg : Grew M N) : Gd w N n g mB bb k ao m cp c F l f gb seq := by
  have q1 := h.o1
  have q2 := h.o2
  obtain ⟨q3, q4⟩ := h.o3
  have hgs : ∀ j, j < 2 * (m - c) → g < M.heap.size := fun j hj => World.block_lt_of_cell? (a := ⟨g, j, none⟩) _ (h.cells j hj)
  exact ⟨h.isC, (hg.cell _ _ (by omega)).trans h.map, (hg.bel.block _ h.o2).trans h.obj, (hg.cell _ _ (by omega)).trans h.gap, h.floor.keep (fun i _ => hg.cell _ _ (by omega)), (hg.cell _ _ (by omega)).trans h.gapk, fun i hi hk => (hg.cell _ _ (by omega)).trans (h.gapo i hi hk), fun i hi => (hg.cell _ _ (by omega)).trans (h.said i hi), fun j hj => (hg.cell _ _ (hgs j hj)).trans (h.cells j hj), fun j hj => (hg.cell _ _ (by omega)).trans (h.mine j hj), h.last.keep (fun i _ => hg.cell _ _ (by omega)), h.flo.keep (fun i _ => hg.cell _ _ (by omega)), h.nil, h.at', h.le, h.bel.trans (hg.bel.mono (by omega)), q1, Nat.lt_of_lt_of_le q2 hg.bel.size, h.o3, h.o4⟩
theorem Gd.drewN (h : Gd w M n g mB bb k ao m cp c F l f gb seq) (d : Nat) : Gd w (M.drewN d) n g mB bb k ao m cp c F l f gb seq := h.grew (Grew.drewN _ d)
end
end Go.Proofs.YbulkdeduDoor

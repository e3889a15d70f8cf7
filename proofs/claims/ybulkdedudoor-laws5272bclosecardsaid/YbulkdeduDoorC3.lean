import Derived.Test.YbulkdeduDoorC2
import Derived.Test.YbulkdeduDoorW5
namespace Go.Proofs.YbulkdeduDoor
open Go.RowKit Go.ChangeMaps Go.MapKept

theorem GapsAt.keep' {W V : World} {g : Nat} {ao : Option Addr} {m cp : Nat} {F : Nat → Int} (h : GapsAt W g ao m cp F) (hc : ao ≠ none → ∀ j, V.cell? ⟨g, j, none⟩ = W.cell? ⟨g, j, none⟩) (hf : ao ≠ none → ∀ j, V.frozen? ⟨g, j, none⟩ = W.frozen? ⟨g, j, none⟩) : GapsAt V g ao m cp F := by
  have hao : ∀ j, j < 2 * m → ao ≠ none := fun j hj e => by have := (h.nil e).1; omega
  exact ⟨h.le, h.nil, h.at', fun j hj => (hc (hao j hj) j).trans (h.cell j hj), fun j hj => (hf (hao j hj) j).trans (h.fr j hj)⟩

/-- the blocks apart -/
structure Ord (w : World) (B n g bb mb : Nat) (ao : Option Addr) (sb lb : Nat) : Prop where
  B1 : B ≤ bb
  B2 : B ≤ n + 7
  B3 : B ≤ mb
  b1 : bb < w.heap.size
  b2 : n + 7 < w.heap.size
  b3 : mb < w.heap.size
  n1 : bb ≠ n + 7
  n2 : bb ≠ mb
  n3 : n + 7 ≠ mb
  g1 : ao ≠ none → B ≤ g ∧ g < w.heap.size ∧ g ≠ bb ∧ g ≠ n + 7 ∧ g ≠ mb
  s1 : w.heap.size ≤ sb
  s2 : sb < lb

/-- takeLatest on its way: bounds kept, said all 0, the gaps in kind k alone -/
structure St (w wr : World) (B n g bb mb k : Nat) (ao : Option Addr) (m cp : Nat) (F l f : Nat → Int) (gb : Int) (sb lb : Nat) : Prop where
  map : wr.cell? ⟨n + 7, 63, none⟩ = some (.map (some mb))
  obj : wr.heap[mb]? = some (.map #[ent (.pointer (some ⟨bb, 0, none⟩))] 1)
  gap : wr.cell? ⟨n + 7, 64, none⟩ = some (.int .i64 gb)
  floor : Three wr bb 0 f
  gapk : wr.cell? ⟨bb, 3 + k, none⟩ = some (.slice ao m cp)
  gapo : ∀ i, i < 3 → i ≠ k → wr.cell? ⟨bb, 3 + i, none⟩ = some (.slice none 0 0)
  said : ∀ i, i < 9 → wr.cell? ⟨bb, 6 + i, none⟩ = some (.int .u64 0)
  gaps : GapsAt wr g ao m cp F
  sd : Three wr sb 0 (fun _ => 0)
  last : Three wr lb 0 l
  fr : ∀ b o, b = bb ∨ b = sb ∨ b = n + 7 → wr.frozen? ⟨b, o, none⟩ = false
  same : ∀ b o, b < w.heap.size → b ≠ bb → b ≠ n + 7 → (ao ≠ none → b ≠ g) → wr.cell? ⟨b, o, none⟩ = w.cell? ⟨b, o, none⟩
  bel : Below B w wr
  sz : lb < wr.heap.size
  ord : Ord w B n g bb mb ao sb lb

section
variable {w V X : World} {B n g bb mb k : Nat} {ao : Option Addr} {m cp : Nat} {F l f f' : Nat → Int} {gb seq : Int} {sb lb : Nat}

theorem St.grew (h : St w V B n g bb mb k ao m cp F l f gb sb lb) (hg : Grew V X) : St w X B n g bb mb k ao m cp F l f gb sb lb := by
  obtain ⟨B1, B2, B3, b1, b2, b3, n1, n2, n3, g1, s1, s2⟩ := h.ord
  have hsz : w.heap.size ≤ V.heap.size := h.bel.size
  have hz := h.sz
  refine ⟨(hg.cell _ _ (by omega)).trans h.map, (hg.bel.block mb (by omega)).trans h.obj, (hg.cell _ _ (by omega)).trans h.gap, h.floor.keep (fun i _ => hg.cell _ _ (by omega)), (hg.cell _ _ (by omega)).trans h.gapk, fun i hi hk => (hg.cell _ _ (by omega)).trans (h.gapo i hi hk), fun i hi => (hg.cell _ _ (by omega)).trans (h.said i hi), h.gaps.keep' (fun ha j => hg.cell _ _ (by have := g1 ha; omega)) (fun ha j => hg.fr _ _ (by have := g1 ha; omega)), h.sd.keep (fun i _ => hg.cell _ _ (by omega)), h.last.keep (fun i _ => hg.cell _ _ (by omega)), fun b o hb => (hg.fr b o (by omega)).trans (h.fr b o hb), fun b o hb q1 q2 q3 => (hg.cell b o (by omega)).trans (h.same b o hb q1 q2 q3), h.bel.trans (hg.bel.mono (by omega)), Nat.lt_of_lt_of_le hz hg.bel.size, h.ord⟩

theorem St.drewN (h : St w V B n g bb mb k ao m cp F l f gb sb lb) (d : Nat) : St w (V.drewN d) B n g bb mb k ao m cp F l f gb sb lb := h.grew (Grew.drewN _ d)

theorem St.floorEq (h : St w V B n g bb mb k ao m cp F l f gb sb lb) (hf : ∀ i, i < 3 → f i = f' i) : St w V B n g bb mb k ao m cp F l f' gb sb lb :=
  { h with floor := fun i hi => by rw [← hf i hi]; exact h.floor i hi }

theorem St.setF (h : St w V B n g bb mb k ao m cp F l f gb sb lb) (j : Nat) (hj : j < 3) (x : Int) : St w (V.setCell ⟨bb, j, none⟩ (.int .u64 x)) B n g bb mb k ao m cp F l (fun i => if i = j then x else f i) gb sb lb := by
  obtain ⟨B1, B2, B3, b1, b2, b3, n1, n2, n3, g1, s1, s2⟩ := h.ord
  have hz := h.sz
  refine ⟨(other _ (by omega)).trans h.map, (Below.heap_setCell _ _ _ _ (by simp; omega)).trans h.obj, (other _ (by omega)).trans h.gap, fun i hi => ?_, (other _ (by omega)).trans h.gapk, fun i hi hk => (other _ (by omega)).trans (h.gapo i hi hk), fun i hi => (other _ (by omega)).trans (h.said i hi), h.gaps.keep' (fun ha j => other _ (by have := g1 ha; omega)) (fun ha j => World.frozen?_setCell _ _ _ _), h.sd.keep (fun i _ => other _ (by omega)), h.last.keep (fun i _ => other _ (by omega)), fun b o hb => (World.frozen?_setCell _ _ _ _).trans (h.fr b o hb), fun b o hb q1 q2 q3 => (other _ (by omega)).trans (h.same b o hb q1 q2 q3), h.bel.setCell (p := ⟨bb, j, none⟩) B1 _, by rw [World.size_setCell]; exact hz, h.ord⟩
  by_cases e : i = j
  · subst e
    have h0 := h.floor i hi
    rw [Nat.zero_add] at h0 ⊢
    rw [World.cell?_setCell_same _ _ _ h0, if_pos rfl]
  · rw [other _ (by omega), h.floor i hi, if_neg e]

theorem St.setS (h : St w V B n g bb mb k ao m cp F l f gb sb lb) (j : Nat) (hj : j < 3) : St w (V.setCell ⟨sb, j, none⟩ (.int .u64 0)) B n g bb mb k ao m cp F l f gb sb lb := by
  obtain ⟨B1, B2, B3, b1, b2, b3, n1, n2, n3, g1, s1, s2⟩ := h.ord
  have hz := h.sz
  refine ⟨(other _ (by omega)).trans h.map, (Below.heap_setCell _ _ _ _ (by simp; omega)).trans h.obj, (other _ (by omega)).trans h.gap, h.floor.keep (fun i _ => other _ (by omega)), (other _ (by omega)).trans h.gapk, fun i hi hk => (other _ (by omega)).trans (h.gapo i hi hk), fun i hi => (other _ (by omega)).trans (h.said i hi), h.gaps.keep' (fun ha j => other _ (by have := g1 ha; omega)) (fun ha j => World.frozen?_setCell _ _ _ _), fun i hi => ?_, h.last.keep (fun i _ => other _ (by omega)), fun b o hb => (World.frozen?_setCell _ _ _ _).trans (h.fr b o hb), fun b o hb q1 q2 q3 => (other _ (by omega)).trans (h.same b o hb q1 q2 q3), h.bel.setCell (p := ⟨sb, j, none⟩) (by show B ≤ sb; omega) _, by rw [World.size_setCell]; exact hz, h.ord⟩
  by_cases e : i = j
  · subst e
    have h0 := h.sd i hi
    rw [Nat.zero_add] at h0 ⊢
    exact World.cell?_setCell_same _ _ _ h0
  · rw [other _ (by omega)]; exact h.sd i hi

/-- a number of said written, 0 -/
theorem St.setSaid (h : St w V B n g bb mb k ao m cp F l f gb sb lb) (j : Nat) (hj : j < 9) : St w (V.setCell ⟨bb, 6 + j, none⟩ (.int .u64 0)) B n g bb mb k ao m cp F l f gb sb lb := by
  obtain ⟨B1, B2, B3, b1, b2, b3, n1, n2, n3, g1, s1, s2⟩ := h.ord
  have hz := h.sz
  have hk : k < 3 ∨ ¬ k < 3 := by omega
  refine ⟨(other _ (by omega)).trans h.map, (Below.heap_setCell _ _ _ _ (by simp; omega)).trans h.obj, (other _ (by omega)).trans h.gap, h.floor.keep (fun i _ => other _ (by omega)), ?_, fun i hi hk => (other _ (by omega)).trans (h.gapo i hi hk), fun i hi => ?_, h.gaps.keep' (fun ha j => other _ (by have := g1 ha; omega)) (fun ha j => World.frozen?_setCell _ _ _ _), h.sd.keep (fun i _ => other _ (by omega)), h.last.keep (fun i _ => other _ (by omega)), fun b o hb => (World.frozen?_setCell _ _ _ _).trans (h.fr b o hb), fun b o hb q1 q2 q3 => (other _ (by omega)).trans (h.same b o hb q1 q2 q3), h.bel.setCell (p := ⟨bb, 6 + j, none⟩) B1 _, by rw [World.size_setCell]; exact hz, h.ord⟩
  · by_cases e : 3 + k = 6 + j
    · have h1 := h.gapk
      have h2 := h.said j hj
      rw [e, h2] at h1
      cases h1
    · rw [other _ (by omega)]; exact h.gapk
  · by_cases e : i = j
    · subst e
      exact World.cell?_setCell_same _ _ _ (h.said i hi)
    · rw [other _ (by omega)]; exact h.said i hi
end

/-- the greater of two -/
def mx (a b : Int) : Int := if a < b then b else a
/-- the floors, the first j raised to seq, but k's -/
def flj (f : Nat → Int) (k : Nat) (seq : Int) (j i : Nat) : Int := if i < j ∧ i ≠ k then mx (f i) seq else f i

/-- what takeLatest leaves -/
structure TookC (w w' : World) (B n g bb mb k : Nat) (ao : Option Addr) (m cp c : Nat) (F f : Nat → Int) (gb seq L : Int) : Prop where
  isC : IsC F L m c
  map : w'.cell? ⟨n + 7, 63, none⟩ = some (.map (some mb))
  obj : w'.heap[mb]? = some (.map (if c = m then #[] else #[ent (.pointer (some ⟨bb, 0, none⟩))]) 1)
  gap : w'.cell? ⟨n + 7, 64, none⟩ = some (.int .i64 (IntKind.i64.wrap (gb - IntKind.i64.wrap (16 * c))))
  floor : Three w' bb 0 (fun i => if i = k then flC F (f k) c else mx (f i) seq)
  gapk : w'.cell? ⟨bb, 3 + k, none⟩ = some (.slice ao (m - c) cp)
  gapo : ∀ i, i < 3 → i ≠ k → w'.cell? ⟨bb, 3 + i, none⟩ = some (.slice none 0 0)
  said : ∀ i, i < 9 → w'.cell? ⟨bb, 6 + i, none⟩ = some (.int .u64 0)
  cells : ∀ j, j < 2 * (m - c) → w'.cell? ⟨g, j, none⟩ = some (.int .u64 (F (2 * c + j)))
  same : ∀ b o, b < w.heap.size → b ≠ bb → b ≠ n + 7 → (ao ≠ none → b ≠ g) → w'.cell? ⟨b, o, none⟩ = w.cell? ⟨b, o, none⟩
  bel : Below B w w'

/-- behind closeGaps and the count's store -/
structure Shut (w w' : World) (B n g bb mb k : Nat) (ao : Option Addr) (m cp c : Nat) (F f : Nat → Int) (gb seq L : Int) : Prop where
  isC : IsC F L m c
  map : w'.cell? ⟨n + 7, 63, none⟩ = some (.map (some mb))
  obj : w'.heap[mb]? = some (.map #[ent (.pointer (some ⟨bb, 0, none⟩))] 1)
  gap : w'.cell? ⟨n + 7, 64, none⟩ = some (.int .i64 (IntKind.i64.wrap (gb - IntKind.i64.wrap (16 * c))))
  floor : Three w' bb 0 (fun i => if i = k then flC F (f k) c else mx (f i) seq)
  gapk : w'.cell? ⟨bb, 3 + k, none⟩ = some (.slice ao (m - c) cp)
  gapo : ∀ i, i < 3 → i ≠ k → w'.cell? ⟨bb, 3 + i, none⟩ = some (.slice none 0 0)
  said : ∀ i, i < 9 → w'.cell? ⟨bb, 6 + i, none⟩ = some (.int .u64 0)
  cells : ∀ j, j < 2 * (m - c) → w'.cell? ⟨g, j, none⟩ = some (.int .u64 (F (2 * c + j)))
  same : ∀ b o, b < w.heap.size → b ≠ bb → b ≠ n + 7 → (ao ≠ none → b ≠ g) → w'.cell? ⟨b, o, none⟩ = w.cell? ⟨b, o, none⟩
  bel : Below B w w'

section
variable {w V W X : World} {B n g bb mb k : Nat} {ao : Option Addr} {m cp c : Nat} {F l f f' : Nat → Int} {gb seq L : Int} {sb lb : Nat}

theorem St.shut (h : St w V B n g bb mb k ao m cp F l (flj f k seq 3) gb sb lb) (hk : k < 3) (hC : Closed V W B g bb k ao m cp c F (f k) L) :
    Shut w (W.setCell ⟨n + 7, 64, none⟩ (.int .i64 (IntKind.i64.wrap (gb - IntKind.i64.wrap (16 * c))))) B n g bb mb k ao m cp c F f gb seq L := by
  obtain ⟨B1, B2, B3, b1, b2, b3, n1, n2, n3, g1, s1, s2⟩ := h.ord
  have hsz : w.heap.size ≤ V.heap.size := h.bel.size
  have hn : ∀ b o, b ≠ bb → (ao ≠ none → b ≠ g) → ¬ Sc ao g bb k b o := fun b o q1 q2 hS => by
    rcases hS with ⟨e1, e2⟩ | ⟨e1, _⟩
    · exact q2 e1 e2
    · exact q1 e1
  have hgn : ∀ b, (b = n + 7 ∨ b = mb ∨ b = bb) → (ao ≠ none → b ≠ g) := fun b hb ha e => by have := g1 ha; omega
  have hnb : ∀ o, o ≠ k → o ≠ 3 + k → ¬ Sc ao g bb k bb o := fun o q1 q2 hS => by
    rcases hS with ⟨e1, e2⟩ | ⟨_, e1 | e1⟩
    · exact hgn bb (.inr (.inr rfl)) e1 e2
    · exact q1 e1
    · exact q2 e1
  have c64 : W.cell? ⟨n + 7, 64, none⟩ = some (.int .i64 gb) := (hC.chg.same _ _ (by omega) (hn _ _ (by omega) (hgn _ (.inl rfl)))).trans h.gap
  refine ⟨hC.isC, ?_, ?_, World.cell?_setCell_same _ _ _ c64, fun i hi => ?_, (other _ (by omega)).trans hC.gaps, fun i hi hik => ?_, fun i hi => ?_, fun j hj => ?_, fun b o hb q1 q2 q3 => ?_, ?_⟩
  · rw [other _ (by omega), hC.chg.same _ _ (by omega) (hn _ _ (by omega) (hgn _ (.inl rfl)))]; exact h.map
  · rw [Below.heap_setCell _ _ _ _ (by simp; omega), hC.chg.objs mb (by omega) (fun o => hn _ _ (by omega) (hgn _ (.inr (.inl rfl))))]; exact h.obj
  · rw [other _ (by omega)]
    by_cases e : i = k
    · subst e
      dsimp only
      rw [Nat.zero_add, if_pos rfl]; exact hC.floor
    · dsimp only
      rw [hC.chg.same _ _ (by omega) (hnb _ (by omega) (by omega)), if_neg e, h.floor i hi, flj, if_pos ⟨hi, e⟩]
  · rw [other _ (by omega), hC.chg.same _ _ (by omega) (hnb _ (by omega) (by omega))]; exact h.gapo i hi hik
  · rw [other _ (by omega), hC.chg.same _ _ (by omega) (hnb _ (by omega) (by omega))]; exact h.said i hi
  · have hao : ao ≠ none := fun e => by have := (h.gaps.nil e).1; omega
    rw [other _ (by have := g1 hao; omega)]; exact hC.cells j hj
  · rw [other _ (by omega), hC.chg.same b o (by omega) (hn b o q1 q3)]; exact h.same b o hb q1 q2 q3
  · exact (h.bel.trans hC.chg.bel).setCell (p := ⟨n + 7, 64, none⟩) B2 _

theorem Shut.tookc (h : Shut w V B n g bb mb k ao m cp c F f gb seq L) (hcm : c ≠ m) : TookC w V B n g bb mb k ao m cp c F f gb seq L :=
  ⟨h.isC, h.map, by rw [if_neg hcm]; exact h.obj, h.gap, h.floor, h.gapk, h.gapo, h.said, h.cells, h.same, h.bel⟩
theorem Shut.del (h : Shut w V B n g bb mb k ao m cp m F f gb seq L) (hB : B ≤ mb) : TookC w (setBlock V mb (.map #[] 1)) B n g bb mb k ao m cp m F f gb seq L := by
  have c : ∀ b o, (setBlock V mb (.map #[] 1)).cell? ⟨b, o, none⟩ = V.cell? ⟨b, o, none⟩ := fun b o => setBlock_cell h.obj _ _ b o
  exact ⟨h.isC, (c _ _).trans h.map, by rw [if_pos rfl]; exact heap_setBlock_same h.obj _, (c _ _).trans h.gap, h.floor.keep (fun i _ => c _ _), (c _ _).trans h.gapk, fun i hi hk => (c _ _).trans (h.gapo i hi hk), fun i hi => (c _ _).trans (h.said i hi), fun j hj => (c _ _).trans (h.cells j hj), fun b o hb q1 q2 q3 => (c _ _).trans (h.same b o hb q1 q2 q3), setBlock_below h.bel h.obj hB _⟩
/-- quiet, of what closeGaps left -/
theorem Shut.quiet (h : Shut w V B n g bb mb k ao m cp c F f gb seq L) (hk : k < 3) : Calls Ybad.prog 13 #[.pointer (some ⟨bb, 0, none⟩)] V fun e w' => e = .returned (.bool (decide (c = m))) ∧ w' = V := by
  have hx : ∀ i, i < 3 → V.cell? ⟨bb, 3 + i, none⟩ = some (.slice (if i = k then ao else none) (if i = k then m - c else 0) (if i = k then cp else 0)) := fun i hi => by
    by_cases e : i = k
    · subst e; simp only [if_pos]; exact h.gapk
    · simp only [if_neg e]; exact h.gapo i hi e
  refine (quiet_any bb (fun i => if i = k then ao else none) (fun i => if i = k then m - c else 0) (fun i => if i = k then cp else 0) V (hx 0 (by decide)) (hx 1 (by decide)) (hx 2 (by decide))).mono ?_
  rintro e w' ⟨rfl, rfl⟩
  refine ⟨?_, rfl⟩
  have hcm := h.isC.1
  congr 2
  rw [Bool.eq_iff_iff]
  simp only [Bool.and_eq_true, decide_eq_true_eq]
  constructor
  · rintro ⟨⟨a0, a1⟩, a2⟩
    obtain rfl | rfl | rfl : k = 0 ∨ k = 1 ∨ k = 2 := by omega
    · simp at a0; omega
    · simp at a1; omega
    · simp at a2; omega
  · rintro rfl
    simp
end
end Go.Proofs.YbulkdeduDoor

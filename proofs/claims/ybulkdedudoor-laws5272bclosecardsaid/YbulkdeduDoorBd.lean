import Derived.Test.YbulkdeduDoorC3
namespace Go.Proofs.YbulkdeduDoor
open Go.RowKit Go.ChangeMaps Go.MapKept

/-- the bounds as they lie before takeLatest -/
structure Bd (w : World) (B n g bb mb k : Nat) (ao : Option Addr) (m cp : Nat) (F f : Nat → Int) (gb : Int) : Prop where
  map : w.cell? ⟨n + 7, 63, none⟩ = some (.map (some mb))
  obj : w.heap[mb]? = some (.map #[ent (.pointer (some ⟨bb, 0, none⟩))] 1)
  gap : w.cell? ⟨n + 7, 64, none⟩ = some (.int .i64 gb)
  floor : Three w bb 0 f
  gapk : w.cell? ⟨bb, 3 + k, none⟩ = some (.slice ao m cp)
  gapo : ∀ i, i < 3 → i ≠ k → w.cell? ⟨bb, 3 + i, none⟩ = some (.slice none 0 0)
  said : ∀ i, i < 9 → w.cell? ⟨bb, 6 + i, none⟩ = some (.int .u64 0)
  gaps : GapsAt w g ao m cp F
  fr : ∀ b o, b = bb ∨ b = n + 7 → w.frozen? ⟨b, o, none⟩ = false
  B1 : B ≤ bb
  B2 : B ≤ n + 7
  B3 : B ≤ mb
  b1 : bb < w.heap.size
  b2 : n + 7 < w.heap.size
  b3 : mb < w.heap.size
  n1 : bb ≠ n + 7
  n2 : bb ≠ mb
  n3 : n + 7 ≠ mb
  g1 : ao ≠ none → B ≤ g ∧ g < w.heap.size ∧ g ≠ bb ∧ g ≠ n + 7 ∧ g ≠ mb

theorem Bd.st {w Y : World} {B n g bb mb k : Nat} {ao : Option Addr} {m cp : Nat} {F l f : Nat → Int} {gb : Int} {sb lb : Nat} (h : Bd w B n g bb mb k ao m cp F f gb) (hg : Grew w Y) (hs : Three Y sb 0 (fun _ => 0)) (hl : Three Y lb 0 l) (hf : ∀ o, Y.frozen? ⟨sb, o, none⟩ = false) (s1 : w.heap.size ≤ sb) (s2 : sb < lb) (sz : lb < Y.heap.size) : St w Y B n g bb mb k ao m cp F l f gb sb lb := by
  obtain ⟨q1, q2, q3, q4, q5, q6, q7, q8, q9, B1, B2, B3, b1, b2, b3, n1, n2, n3, g1⟩ := h
  refine ⟨(hg.cell _ _ b2).trans q1, (hg.bel.block mb b3).trans q2, (hg.cell _ _ b2).trans q3, q4.keep (fun i _ => hg.cell _ _ b1), (hg.cell _ _ b1).trans q5, fun i hi hk => (hg.cell _ _ b1).trans (q6 i hi hk), fun i hi => (hg.cell _ _ b1).trans (q7 i hi), q8.keep' (fun ha j => hg.cell _ _ (g1 ha).2.1) (fun ha j => hg.fr _ _ (g1 ha).2.1), hs, hl, fun b o hb => ?_, fun b o hb _ _ _ => hg.cell b o hb, hg.bel.mono (by omega), sz, ⟨B1, B2, B3, b1, b2, b3, n1, n2, n3, g1, s1, s2⟩⟩
  rcases hb with rfl | rfl | rfl
  · exact (hg.fr _ _ b1).trans (q9 _ o (.inl rfl))
  · exact hf o
  · exact (hg.fr _ _ b2).trans (q9 _ o (.inr rfl))

/-- the said array laid, zeros -/
def Sz (w S : World) (sb : Nat) : Prop := Grew w S ∧ Three S sb 0 (fun _ => 0) ∧ (∀ o, S.frozen? ⟨sb, o, none⟩ = false) ∧ sb < S.heap.size
theorem Sz.init {w X : World} (h : Grew w X) (a : TypeId) : Sz w (X.alloc (.cells #[.int .u64 0, .int .u64 0, .int .u64 0] a)) X.heap.size := by
  refine ⟨h.trans (Grew.alloc _ _), fun i hi => ?_, fun o => World.frozen?_alloc_at _ _ _ _ rfl, by simp⟩
  rw [World.cell?_alloc_at _ _ _ _ rfl]
  obtain rfl | rfl | rfl : i = 0 ∨ i = 1 ∨ i = 2 := by omega
  all_goals rfl
end Go.Proofs.YbulkdeduDoor

import Derived.Test.YbulkdeduDoorW3
namespace Go.Proofs.YbulkdeduDoor
open Go.RowKit

/-- cells below the heap's old end stand, but those of S -/
structure Chg (w w' : World) (B : Nat) (S : Nat → Nat → Prop) : Prop where
  same : ∀ b o, b < w.heap.size → ¬ S b o → w'.cell? ⟨b, o, none⟩ = w.cell? ⟨b, o, none⟩
  fr : ∀ b o, b < w.heap.size → w'.frozen? ⟨b, o, none⟩ = w.frozen? ⟨b, o, none⟩
  bel : Below B w w'
  objs : ∀ b, b < w.heap.size → (∀ o, ¬ S b o) → w'.heap[b]? = w.heap[b]?
theorem Grew.chg {w W : World} (h : Grew w W) {B : Nat} (hB : B ≤ w.heap.size) (S : Nat → Nat → Prop) : Chg w W B S := ⟨fun b o hb _ => h.cell b o hb, h.fr, h.bel.mono hB, fun b hb _ => h.bel.block b hb⟩
theorem Chg.set {w W : World} {B : Nat} {S : Nat → Nat → Prop} (h : Chg w W B S) {b o : Nat} (hB : B ≤ b) (hS : S b o) (v : Value) : Chg w (W.setCell ⟨b, o, none⟩ v) B S :=
  ⟨fun b' o' hb hn => (World.cell?_setCell_other _ _ _ _ (fun e => by cases e; exact hn hS)).trans (h.same b' o' hb hn), fun b' o' hb => (World.frozen?_setCell _ _ _ _).trans (h.fr b' o' hb), h.bel.setCell hB v, fun b' hb hn => (Below.heap_setCell _ _ _ _ (fun e => by subst e; exact hn _ hS)).trans (h.objs b' hb hn)⟩
theorem Chg.trans {a b c : World} {B : Nat} {S : Nat → Nat → Prop} (h : Chg a b B S) (k : Chg b c B S) : Chg a c B S :=
  ⟨fun x o hx hn => (k.same x o (Nat.lt_of_lt_of_le hx h.bel.size) hn).trans (h.same x o hx hn), fun x o hx => (k.fr x o (Nat.lt_of_lt_of_le hx h.bel.size)).trans (h.fr x o hx), h.bel.trans k.bel, fun x hx hn => (k.objs x (Nat.lt_of_lt_of_le hx h.bel.size) hn).trans (h.objs x hx hn)⟩

set_option maxRecDepth 100000 in
theorem search0 (f : Value) (w : World) : Calls Ybad.prog 16 #[.int .i64 0, f] w fun e w' => e = .returned (.int .i64 0) ∧ w' = w := by
  go_enter Ybad.func16, Ybad.ntmps16
  go_wp2
  refine wp_loop_once ?_
  go_wp2
  go_ret
  exact ⟨rfl, rfl⟩

set_option maxRecDepth 100000 in
set_option maxHeartbeats 1000000 in
theorem addGap_nil (bb j : Nat) (hj : j < 3) (a u : Int) (w : World) (c0 : w.cell? ⟨bb, 3 + j, none⟩ = some (.slice none 0 0)) (fr : w.frozen? ⟨bb, 3 + j, none⟩ = false) :
    Calls Ybad.prog 11 #[.pointer (some ⟨bb, 0, none⟩), .int .u8 j, .agg #[.int .u64 a, .int .u64 u]] w fun e w' => e = .returned (.int .i64 1) ∧ ∃ v, w'.cell? ⟨bb, 3 + j, none⟩ = some v ∧ OneGap w' w.heap.size v a u ∧ Chg w w' bb (fun b o => b = bb ∧ o = 3 + j) := by
  have hj1 : (0 : Int) ≤ (j : Int) := by omega
  have hj2 : (j : Int) < 3 := by omega
  have hb : bb < w.heap.size := World.block_lt_of_cell? (a := ⟨bb, 3 + j, none⟩) _ c0
  go_enter Ybad.func11, Ybad.ntmps11
  go_wp2_with fail
  refine (search0 _ _).mono ?_
  rintro e w1 ⟨rfl, rfl⟩
  refine absW (fun V => Grew w V ∧ w.heap.size + 1 < V.heap.size ∧ V.cell? ⟨w.heap.size, 0, none⟩ = some (.int .u64 a) ∧ V.cell? ⟨w.heap.size, 1, none⟩ = some (.int .u64 u) ∧ V.cell? ⟨w.heap.size + 1, 0, none⟩ = some (.slice none 0 0)) ?_ ?_
  · refine ⟨(Grew.alloc _ _).trans (Grew.alloc _ _), by simp, ?_, ?_, World.cell?_alloc_at _ _ _ _ (by simp)⟩
    · rw [World.cell?_alloc_past _ _ _ (by simp)]; exact World.cell?_alloc_at _ _ _ _ rfl
    · rw [World.cell?_alloc_past _ _ _ (by simp)]; exact World.cell?_alloc_at _ _ _ _ rfl
  rintro V ⟨hG, hs, a0, a1, a2⟩
  have HG : Hid (Grew w V) := hG
  have c0' := (hG.cell bb (3 + j) hb).trans c0
  have fr' := (hG.fr bb (3 + j) hb).trans fr
  have hs0 : w.heap.size ≤ V.heap.size := hG.bel.size
  clear hG c0 fr
  go_wp2
  refine wp_loop_once ?_
  go_wp2
  go_quiet (fail)
  go_wp2
  refine absW (fun X => Grew w X ∧ w.heap.size + 1 < X.heap.size ∧ X.cell? ⟨w.heap.size, 0, none⟩ = some (.int .u64 a) ∧ X.cell? ⟨w.heap.size, 1, none⟩ = some (.int .u64 u) ∧ X.cell? ⟨w.heap.size + 1, 0, none⟩ = some (.slice none 0 0) ∧ X.cell? ⟨bb, 3 + j, none⟩ = some (.slice none 0 0) ∧ X.frozen? ⟨bb, 3 + j, none⟩ = false) ⟨HG.out.trans (Grew.drewN _ _), hs, a0, a1, a2, c0', fr'⟩ ?_
  clear hs a0 a1 a2 c0' fr' HG hs0
  rintro X ⟨hG, hs, a0, a1, a2, c0, fr⟩
  have HG : Hid (Grew w X) := hG
  have hs0 : w.heap.size ≤ X.heap.size := hG.bel.size
  clear hG
  have S0 : w.heap.size < X.heap.size := by omega
  have S1 : bb < X.heap.size := by omega
  have N0 : ¬ w.heap.size = bb := by omega
  have N1 : ¬ w.heap.size + 1 = bb := by omega
  have N2 : ¬ bb = w.heap.size := by omega
  have N3 : ¬ bb = w.heap.size + 1 := by omega
  go_region_held3 (fun x => x.cell? ⟨w.heap.size, 0, none⟩ = some (.int .u64 a) ∧ x.cell? ⟨w.heap.size, 1, none⟩ = some (.int .u64 u) ∧ x.cell? ⟨w.heap.size + 1, 0, none⟩ = some (.slice none 0 0)) (go_keep) ((go_at_call 19; refine (replace_nil a u _ _ (World.cell?_alloc_at _ _ _ _ rfl) (World.cell?_alloc_at _ _ _ _ rfl)).mono ?_; rintro e w2 ⟨v, rfl, ⟨g, c, rfl, g1, g2, g3, g4⟩, h2⟩; have hx := (Grew.alloc X (.cells #[.int .u64 a, .int .u64 u] 78)).trans ((Grew.drewN _ 1).trans h2); have k0 := (hx.cell w.heap.size 0 S0).trans a0; have k1 := (hx.cell w.heap.size 1 S0).trans a1; have k2 := (hx.cell (w.heap.size + 1) 0 hs).trans a2; have k3 := (hx.cell bb (3 + j) S1).trans c0; have k4 := (hx.fr bb (3 + j) S1).trans fr))
  have F1 : Hid (OneGap (w2.setCell ⟨bb, 3 + j, none⟩ (.slice (some ⟨g, 0, none⟩) 1 c)) w.heap.size (.slice (some ⟨g, 0, none⟩) 1 c) a u) := by
    have hgX : X.heap.size + 1 ≤ g := by have := g1; simpa using this
    refine ⟨g, c, rfl, by omega, by rw [World.size_setCell]; exact g2, ?_, ?_⟩
    · rw [World.cell?_setCell_other _ _ _ _ (by intro e; injection e with e1; omega)]; exact g3
    · rw [World.cell?_setCell_other _ _ _ _ (by intro e; injection e with e1; omega)]; exact g4
  have F2 : Hid ((w2.setCell ⟨bb, 3 + j, none⟩ (.slice (some ⟨g, 0, none⟩) 1 c)).cell? ⟨bb, 3 + j, none⟩ = some (.slice (some ⟨g, 0, none⟩) 1 c)) := World.cell?_setCell_same _ _ _ k3
  have F3 : Hid (Chg w (w2.setCell ⟨bb, 3 + j, none⟩ (.slice (some ⟨g, 0, none⟩) 1 c)) bb (fun b o => b = bb ∧ o = 3 + j)) :=
    ((HG.out.trans hx).chg (by omega) _).set (Nat.le_refl _) ⟨rfl, rfl⟩ _
  clear k0 k1 k2 k3 k4 hx h2 g1 g2 g3 g4 c0 fr a0 a1 a2
  go_wp2
  go_ret
  exact ⟨rfl, _, F2.out, F1.out, F3.out⟩

set_option maxRecDepth 100000 in
set_option maxHeartbeats 1000000 in
theorem closeGaps_nil (bb k : Nat) (hk : k < 3) (L : Int) (w : World) (c0 : w.cell? ⟨bb, 3 + k, none⟩ = some (.slice none 0 0)) (fr : w.frozen? ⟨bb, 3 + k, none⟩ = false) :
    Calls Ybad.prog 12 #[.pointer (some ⟨bb, 0, none⟩), .int .u8 k, .int .u64 L] w fun e w' => e = .returned (.int .i64 0) ∧ Chg w w' bb (fun b o => b = bb ∧ o = 3 + k) ∧ w'.cell? ⟨bb, 3 + k, none⟩ = some (.slice none 0 0) := by
  have hj1 : (0 : Int) ≤ (k : Int) := by omega
  have hj2 : (k : Int) < 3 := by omega
  have hb : bb < w.heap.size := World.block_lt_of_cell? (a := ⟨bb, 3 + k, none⟩) _ c0
  have HF : Hid (Chg w ((w.setCell ⟨bb, 3 + k, none⟩ (.slice none 0 0)).drew) bb (fun b o => b = bb ∧ o = 3 + k) ∧ ((w.setCell ⟨bb, 3 + k, none⟩ (.slice none 0 0)).drew).cell? ⟨bb, 3 + k, none⟩ = some (.slice none 0 0)) := by
    have h1 := (((Grew.refl w).chg (B := bb) (by omega) (fun b o => b = bb ∧ o = 3 + k)).set (b := bb) (o := 3 + k) (Nat.le_refl _) ⟨rfl, rfl⟩ (.slice none 0 0))
    exact ⟨⟨h1.same, h1.fr, below_drewN' h1.bel 1, h1.objs⟩, World.cell?_setCell_same _ _ _ c0⟩
  go_enter Ybad.func12, Ybad.ntmps12
  go_wp2
  refine wp_loop_once ?_
  go_wp2
  go_region_with (go_at_call 20; refine (delete_none none 0 0 _ (by decide) (by decide) (fun _ => ⟨rfl, rfl⟩)).mono ?_; rintro e w2 ⟨rfl, rfl⟩)
  refine absW (fun V => Chg w V bb (fun b o => b = bb ∧ o = 3 + k) ∧ V.cell? ⟨bb, 3 + k, none⟩ = some (.slice none 0 0)) HF.out ?_
  clear HF
  intro V h
  have HF : Hid (Chg w V bb (fun b o => b = bb ∧ o = 3 + k) ∧ V.cell? ⟨bb, 3 + k, none⟩ = some (.slice none 0 0)) := h
  clear h
  go_wp2
  go_ret
  exact ⟨rfl, HF.out⟩
end Go.Proofs.YbulkdeduDoor

import Derived.Test.YbulkdeduDoorMap
namespace Go.Proofs.YbulkdeduDoor
open Go.RowKit Go.ChangeMaps Go.MapKept

/-- three cells in a row -/
def Three (W : World) (b o : Nat) (f : Nat → Int) : Prop := ∀ i, i < 3 → W.cell? ⟨b, o + i, none⟩ = some (.int .u64 (f i))
theorem Three.keep {W V : World} {b o : Nat} {f : Nat → Int} (h : Three W b o f) (hs : ∀ i, i < 3 → V.cell? ⟨b, o + i, none⟩ = W.cell? ⟨b, o + i, none⟩) : Three V b o f := fun i hi => (hs i hi).trans (h i hi)
theorem other {W : World} {b o b' o' : Nat} (v : Value) (h : b ≠ b' ∨ o ≠ o') : (W.setCell ⟨b, o, none⟩ v).cell? ⟨b', o', none⟩ = W.cell? ⟨b', o', none⟩ :=
  World.cell?_setCell_other _ _ _ _ (fun e => by injection e with e1 e2; omega)

def opn (l t : Nat → Int) (k i : Nat) : Bool := decide (i ≠ k) && decide (l i < t i)
def gapB (l t : Nat → Int) (k : Nat) (gb : Int) : Nat → Int
  | 0 => gb
  | j + 1 => if opn l t k j then IntKind.i64.wrap (gapB l t k gb j + 16) else gapB l t k gb j
def sdAt (l t : Nat → Int) (k j i : Nat) : Int := if i < j ∧ i ≠ k ∧ ¬ l i < t i then 0 else t i
def flAt (l t : Nat → Int) (k : Nat) (seq hi : Int) (j i : Nat) : Int := if i < j ∧ i ≠ k ∧ ¬ l i < t i then (if hi < seq then seq else hi) else hi

theorem sd_succ {l t : Nat → Int} {k i j : Nat} (h : i ≠ j ∨ j = k ∨ l j < t j) : sdAt l t k (j + 1) i = sdAt l t k j i := by
  unfold sdAt
  have : (i < j + 1 ∧ i ≠ k ∧ ¬ l i < t i) ↔ (i < j ∧ i ≠ k ∧ ¬ l i < t i) := by
    by_cases e : i = j
    · subst e; omega
    · omega
  simp only [this]
theorem fl_succ {l t : Nat → Int} {k i j : Nat} {seq hi : Int} (h : i ≠ j ∨ j = k ∨ l j < t j) : flAt l t k seq hi (j + 1) i = flAt l t k seq hi j i := by
  unfold flAt
  have : (i < j + 1 ∧ i ≠ k ∧ ¬ l i < t i) ↔ (i < j ∧ i ≠ k ∧ ¬ l i < t i) := by
    by_cases e : i = j
    · subst e; omega
    · omega
  simp only [this]

structure In3 (w wr : World) (n sb lb bb mb k : Nat) (seq gb hi : Int) (l t : Nat → Int) (j : Nat) : Prop where
  map : wr.cell? ⟨n + 7, 63, none⟩ = some (.map (some mb))
  obj : wr.heap[mb]? = some (.map #[ent (.pointer (some ⟨bb, 0, none⟩))] 1)
  gap : wr.cell? ⟨n + 7, 64, none⟩ = some (.int .i64 (gapB l t k gb j))
  saidv : Three wr sb 0 (sdAt l t k j)
  last : Three wr lb 0 l
  floor : Three wr bb 0 (flAt l t k seq hi j)
  gapsO : ∀ i, i < 3 → i < j → opn l t k i = true → ∃ v, wr.cell? ⟨bb, 3 + i, none⟩ = some v ∧ OneGap wr (mb + 1) v (t i) seq
  gapsN : ∀ i, i < 3 → ¬ (i < j ∧ opn l t k i = true) → wr.cell? ⟨bb, 3 + i, none⟩ = some (.slice none 0 0)
  said : ∀ i, i < 9 → wr.cell? ⟨bb, 6 + i, none⟩ = some (.int .u64 0)
  fr : ∀ b o, b = bb ∨ b = sb ∨ b = n + 7 → wr.frozen? ⟨b, o, none⟩ = false
  same : ∀ b o, b < w.heap.size → (b ≠ n + 7 ∨ (o ≠ 63 ∧ o ≠ 64)) → wr.cell? ⟨b, o, none⟩ = w.cell? ⟨b, o, none⟩
  bel : Below (n + 7) w wr
  lt : mb < wr.heap.size
  ord : n + 7 < w.heap.size ∧ w.heap.size ≤ sb ∧ sb < lb ∧ lb < bb ∧ bb < mb

theorem OneGap.keep {w w' : World} {B B' : Nat} {v : Value} {a u : Int} (h : OneGap w B v a u) (hB : B' ≤ B) (hs : ∀ b o, B ≤ b → b < w.heap.size → w'.cell? ⟨b, o, none⟩ = w.cell? ⟨b, o, none⟩) (hz : w.heap.size ≤ w'.heap.size) : OneGap w' B' v a u := by
  obtain ⟨g, c, rfl, h1, h2, h3, h4⟩ := h.ex
  exact ⟨g, c, rfl, Nat.le_trans hB h1, Nat.lt_of_lt_of_le h2 hz, (hs g 0 h1 h2).trans h3, (hs g 1 h1 h2).trans h4⟩

section
variable {w wr : World} {n sb lb bb mb k : Nat} {seq gb hi : Int} {l t : Nat → Int} {j : Nat}

theorem In3.grew (h : In3 w wr n sb lb bb mb k seq gb hi l t j) {V : World} (g : Grew wr V) : In3 w V n sb lb bb mb k seq gb hi l t j := by
  obtain ⟨o1, o2, o3, o4, o5⟩ := h.ord
  have hlt := h.lt
  have c : ∀ b o, b ≤ mb → V.cell? ⟨b, o, none⟩ = wr.cell? ⟨b, o, none⟩ := fun b o hb => g.cell b o (by omega)
  have hsz : w.heap.size ≤ wr.heap.size := h.bel.size
  refine ⟨(c _ _ (by omega)).trans h.map, (g.bel.block mb hlt).trans h.obj, (c _ _ (by omega)).trans h.gap, h.saidv.keep (fun i _ => c _ _ (by omega)), h.last.keep (fun i _ => c _ _ (by omega)), h.floor.keep (fun i _ => c _ _ (by omega)),
    fun i hi hij ho => ?_, fun i hi hn => (c _ _ (by omega)).trans (h.gapsN i hi hn), fun i hi => (c _ _ (by omega)).trans (h.said i hi), fun b o hb => (g.fr b o (by omega)).trans (h.fr b o hb),
    fun b o hb hn => (g.cell b o (by omega)).trans (h.same b o hb hn), h.bel.trans (g.bel.mono (by omega)), Nat.lt_of_lt_of_le hlt g.bel.size, h.ord⟩
  obtain ⟨v, hv, hg⟩ := h.gapsO i hi hij ho
  exact ⟨v, (c _ _ (by omega)).trans hv, hg.keep (Nat.le_refl _) (fun b o _ hb => g.cell b o hb) g.bel.size⟩

theorem In3.skip (h : In3 w wr n sb lb bb mb k seq gb hi l t j) (hj : j = k) : In3 w wr n sb lb bb mb k seq gb hi l t (j + 1) := by
  have ho : opn l t k j = false := by simp [opn, hj]
  refine ⟨h.map, h.obj, by rw [gapB, ho]; exact h.gap, fun i hi => ?_, h.last, fun i hi => ?_, fun i hi hij hop => ?_, fun i hi hn => ?_, h.said, h.fr, h.same, h.bel, h.lt, h.ord⟩
  · rw [h.saidv i hi, sd_succ (.inr (.inl hj))]
  · rw [h.floor i hi, fl_succ (.inr (.inl hj))]
  · by_cases e : i = j
    · rw [e, ho] at hop; cases hop
    · exact h.gapsO i hi (by omega) hop
  · by_cases e : i = j
    · exact h.gapsN i hi (fun hc => by omega)
    · exact h.gapsN i hi (fun hc => hn ⟨by omega, hc.2⟩)

theorem In3.shut (h : In3 w wr n sb lb bb mb k seq gb hi l t j) (hj : j ≠ k) (hj3 : j < 3) (hl : ¬ l j < t j) :
    In3 w ((wr.setCell ⟨bb, j, none⟩ (.int .u64 (if hi < seq then seq else hi))).setCell ⟨sb, j, none⟩ (.int .u64 0)) n sb lb bb mb k seq gb hi l t (j + 1) := by
  obtain ⟨o1, o2, o3, o4, o5⟩ := h.ord
  have ho : opn l t k j = false := by simp [opn, hl]
  have hsz : w.heap.size ≤ wr.heap.size := h.bel.size
  have c : ∀ b o, ¬ (b = bb ∧ o = j) → ¬ (b = sb ∧ o = j) → ((wr.setCell ⟨bb, j, none⟩ (.int .u64 (if hi < seq then seq else hi))).setCell ⟨sb, j, none⟩ (.int .u64 0)).cell? ⟨b, o, none⟩ = wr.cell? ⟨b, o, none⟩ := fun b o h1 h2 => by rw [other _ (by omega), other _ (by omega)]
  refine ⟨(c _ _ (by omega) (by omega)).trans h.map, ?_, ?_, fun i hi3 => ?_, h.last.keep (fun i _ => c _ _ (by omega) (by omega)), fun i hi3 => ?_, fun i hi3 hij hop => ?_, fun i hi3 hn => (c _ _ (by omega) (by omega)).trans (h.gapsN i hi3 (fun hc => hn ⟨by omega, hc.2⟩)), fun i hi3 => (c _ _ (by omega) (by omega)).trans (h.said i hi3), fun b o hb => (World.frozen?_setCell _ _ _ _).trans ((World.frozen?_setCell _ _ _ _).trans (h.fr b o hb)), fun b o hb hn => (c _ _ (by omega) (by omega)).trans (h.same b o hb hn), (h.bel.setCell (p := ⟨bb, j, none⟩) (by simp; omega) _).setCell (p := ⟨sb, j, none⟩) (by simp; omega) _, by rw [World.size_setCell, World.size_setCell]; exact h.lt, h.ord⟩
  · rw [Below.heap_setCell _ _ _ _ (by simp; omega), Below.heap_setCell _ _ _ _ (by simp; omega)]; exact h.obj
  · rw [gapB, ho]; exact (c _ _ (by omega) (by omega)).trans h.gap
  · by_cases e : i = j
    · subst e
      have h0 := h.saidv i hi3
      rw [Nat.zero_add] at h0 ⊢
      rw [World.cell?_setCell_same _ _ _ ((other _ (by omega)).trans h0)]
      unfold sdAt
      rw [if_pos ⟨by omega, hj, hl⟩]
    · rw [c _ _ (by omega) (by omega), h.saidv i hi3, sd_succ (.inl e)]
  · by_cases e : i = j
    · subst e
      have h0 := h.floor i hi3
      rw [Nat.zero_add] at h0 ⊢
      rw [other _ (by omega), World.cell?_setCell_same _ _ _ h0, show flAt l t k seq hi (i + 1) i = (if hi < seq then seq else hi) from if_pos ⟨by omega, hj, hl⟩]
    · rw [c _ _ (by omega) (by omega), h.floor i hi3, fl_succ (.inl e)]
  · by_cases e : i = j
    · rw [e, ho] at hop; cases hop
    · obtain ⟨v, hv, hg⟩ := h.gapsO i hi3 (by omega) hop
      exact ⟨v, (c _ _ (by omega) (by omega)).trans hv, hg.keep (Nat.le_refl _) (fun b o hb _ => c _ _ (by omega) (by omega)) (by rw [World.size_setCell, World.size_setCell]; exact Nat.le_refl _)⟩

theorem In3.open (h : In3 w wr n sb lb bb mb k seq gb hi l t j) (hj : j ≠ k) (hj3 : j < 3) (hl : l j < t j) {V : World} {v : Value} (hv : V.cell? ⟨bb, 3 + j, none⟩ = some v) (hg : OneGap V wr.heap.size v (t j) seq) (hc : Chg wr V bb (fun b o => b = bb ∧ o = 3 + j)) :
    In3 w (V.setCell ⟨n + 7, 64, none⟩ (.int .i64 (IntKind.i64.wrap (gapB l t k gb j + 16)))) n sb lb bb mb k seq gb hi l t (j + 1) := by
  obtain ⟨o1, o2, o3, o4, o5⟩ := h.ord
  have hlt := h.lt
  have ho : opn l t k j = true := by simp [opn, hl, hj]
  have hsz : w.heap.size ≤ wr.heap.size := h.bel.size
  have c : ∀ b o, b < wr.heap.size → ¬ (b = bb ∧ o = 3 + j) → ¬ (b = n + 7 ∧ o = 64) → (V.setCell ⟨n + 7, 64, none⟩ (.int .i64 (IntKind.i64.wrap (gapB l t k gb j + 16)))).cell? ⟨b, o, none⟩ = wr.cell? ⟨b, o, none⟩ := fun b o hb h1 h2 => by rw [other _ (by omega)]; exact hc.same b o hb h1
  refine ⟨(c _ _ (by omega) (by omega) (by omega)).trans h.map, ?_, ?_, fun i hi3 => ?_, h.last.keep (fun i _ => c _ _ (by omega) (by omega) (by omega)), fun i hi3 => ?_, fun i hi3 hij hop => ?_, fun i hi3 hn => ?_, fun i hi3 => (c _ _ (by omega) (by omega) (by omega)).trans (h.said i hi3), fun b o hb => (World.frozen?_setCell _ _ _ _).trans ((hc.fr b o (by omega)).trans (h.fr b o hb)), fun b o hb hn => (c _ _ (by omega) (by omega) (by omega)).trans (h.same b o hb hn), (h.bel.trans (hc.bel.mono (by omega))).setCell (p := ⟨n + 7, 64, none⟩) (Nat.le_refl _) _, by rw [World.size_setCell]; exact Nat.lt_of_lt_of_le hlt hc.bel.size, h.ord⟩
  · rw [Below.heap_setCell _ _ _ _ (by simp; omega), hc.objs mb hlt (fun o ho => by omega)]; exact h.obj
  · rw [gapB, ho]; exact World.cell?_setCell_same _ _ _ ((hc.same _ _ (by omega) (by omega)).trans h.gap)
  · rw [c _ _ (by omega) (by omega) (by omega), h.saidv i hi3, sd_succ (.inr (.inr hl))]
  · rw [c _ _ (by omega) (by omega) (by omega), h.floor i hi3, fl_succ (.inr (.inr hl))]
  · by_cases e : i = j
    · subst e
      exact ⟨v, by rw [other _ (by omega)]; exact hv, hg.keep (by omega) (fun b o hb _ => other _ (by omega)) (by rw [World.size_setCell]; exact Nat.le_refl _)⟩
    · obtain ⟨v', hv', hg'⟩ := h.gapsO i hi3 (by omega) hop
      exact ⟨v', (c _ _ (by omega) (by omega) (by omega)).trans hv', hg'.keep (Nat.le_refl _) (fun b o hb hb2 => c _ _ hb2 (by omega) (by omega)) (by rw [World.size_setCell]; exact hc.bel.size)⟩
  · by_cases e : i = j
    · exact absurd ⟨by omega, by rw [e]; exact ho⟩ hn
    · exact (c _ _ (by omega) (by omega) (by omega)).trans (h.gapsN i hi3 (fun hc => hn ⟨by omega, hc.2⟩))
end
end Go.Proofs.YbulkdeduDoor

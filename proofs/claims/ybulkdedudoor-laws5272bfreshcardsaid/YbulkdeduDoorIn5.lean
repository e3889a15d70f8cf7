import Derived.Test.YbulkdeduDoorCnt
namespace Go.Proofs.YbulkdeduDoor
open Go.RowKit

/-- the law's own wanted floors, the first j laid -/
def wfl (l t : Nat → Int) (k : Nat) (seq hi : Int) (j i : Nat) : Int := if i < j then flAt l t k seq hi 3 i else 0

/-- loop 2 of the law: two blocks of its own (fb, fb + 1), the rest as in V -/
structure In5 (V wr : World) (k : Nat) (seq hi : Int) (l t : Nat → Int) (j : Nat) : Prop where
  g : Grew V wr
  fl : Three wr V.heap.size 0 (wfl l t k seq hi j)
  sd : Three wr (V.heap.size + 1) 0 (sdAt l t k j)
  fr : ∀ b o, b = V.heap.size ∨ b = V.heap.size + 1 → wr.frozen? ⟨b, o, none⟩ = false
  lt : V.heap.size + 1 < wr.heap.size

section
variable {V wr : World} {k : Nat} {seq hi f f' : Int} {l t : Nat → Int} {j : Nat}
theorem In5.drewN (h : In5 V wr k seq hi l t j) (d : Nat) : In5 V (wr.drewN d) k seq hi l t j := ⟨h.g.trans (Grew.drewN _ d), h.fl, h.sd, h.fr, h.lt⟩
theorem Grew.set2 {w W : World} (h : Grew w W) {b o : Nat} (hp : w.heap.size ≤ b) (v : Value) : Grew w (W.setCell ⟨b, o, none⟩ v) := h.set (p := ⟨b, o, none⟩) hp v

/-- the wanted floor at j laid as f, and the wanted said kept -/
theorem In5.keepSaid (h : In5 V wr k seq hi l t j) (hj : j < 3) (f : Int) (hf : f = flAt l t k seq hi 3 j) (hs : j = k ∨ l j < t j) : In5 V (wr.setCell ⟨V.heap.size, j, none⟩ (.int .u64 f)) k seq hi l t (j + 1) := by
  refine ⟨h.g.set2 (Nat.le_refl _) _, fun i hi3 => ?_, fun i hi3 => ?_, fun b o hb => (World.frozen?_setCell _ _ _ _).trans (h.fr b o hb), by rw [World.size_setCell]; exact h.lt⟩
  · by_cases e : i = j
    · subst e
      have h0 := h.fl i hi3
      rw [Nat.zero_add] at h0 ⊢
      rw [World.cell?_setCell_same _ _ _ h0, hf, wfl, if_pos (by omega)]
    · rw [other _ (by omega), h.fl i hi3]
      unfold wfl
      by_cases e2 : i < j
      · rw [if_pos e2, if_pos (by omega)]
      · rw [if_neg e2, if_neg (by omega)]
  · rw [other _ (by omega), h.sd i hi3, sd_succ (by omega)]
/-- .. and the wanted said at j set to 0 -/
theorem In5.zeroSaid (h : In5 V wr k seq hi l t j) (hj : j < 3) (f : Int) (hf : f = flAt l t k seq hi 3 j) (hjk : j ≠ k) (hs : ¬ l j < t j) : In5 V ((wr.setCell ⟨V.heap.size, j, none⟩ (.int .u64 f)).setCell ⟨V.heap.size + 1, j, none⟩ (.int .u64 0)) k seq hi l t (j + 1) := by
  refine ⟨(h.g.set2 (Nat.le_refl _) _).set2 (by omega) _, fun i hi3 => ?_, fun i hi3 => ?_, fun b o hb => (World.frozen?_setCell _ _ _ _).trans ((World.frozen?_setCell _ _ _ _).trans (h.fr b o hb)), by rw [World.size_setCell, World.size_setCell]; exact h.lt⟩
  · rw [other _ (by omega)]
    by_cases e : i = j
    · subst e
      have h0 := h.fl i hi3
      rw [Nat.zero_add] at h0 ⊢
      rw [World.cell?_setCell_same _ _ _ h0, hf, wfl, if_pos (by omega)]
    · rw [other _ (by omega), h.fl i hi3]
      unfold wfl
      by_cases e2 : i < j
      · rw [if_pos e2, if_pos (by omega)]
      · rw [if_neg e2, if_neg (by omega)]
  · by_cases e : i = j
    · subst e
      have h0 := h.sd i hi3
      rw [Nat.zero_add] at h0 ⊢
      rw [World.cell?_setCell_same _ _ _ ((other _ (by omega)).trans h0), sdAt, if_pos ⟨by omega, hjk, hs⟩]
    · rw [other _ (by omega), other _ (by omega), h.sd i hi3, sd_succ (.inl e)]
/-- half a round: the wanted floor at j laid as f, the wanted said not yet -/
structure In5h (V wr : World) (k : Nat) (seq hi : Int) (l t : Nat → Int) (j : Nat) (f : Int) : Prop where
  g : Grew V wr
  fl : ∀ i, i < 3 → i ≠ j → wr.cell? ⟨V.heap.size, i, none⟩ = some (.int .u64 (wfl l t k seq hi j i))
  flj : wr.cell? ⟨V.heap.size, j, none⟩ = some (.int .u64 f)
  sd : Three wr (V.heap.size + 1) 0 (sdAt l t k j)
  fr : ∀ b o, b = V.heap.size ∨ b = V.heap.size + 1 → wr.frozen? ⟨b, o, none⟩ = false
  lt : V.heap.size + 1 < wr.heap.size
theorem In5.half (h : In5 V wr k seq hi l t j) (hj : j < 3) (f : Int) (d : Nat) : In5h V ((wr.setCell ⟨V.heap.size, j, none⟩ (.int .u64 f)).drewN d) k seq hi l t j f := by
  have h0 := h.fl j hj
  rw [Nat.zero_add] at h0
  refine ⟨(h.g.set2 (Nat.le_refl _) _).trans (Grew.drewN _ d), fun i hi3 e => ?_, World.cell?_setCell_same _ _ _ h0, fun i hi3 => ?_, fun b o hb => (World.frozen?_setCell _ _ _ _).trans (h.fr b o hb), ?_⟩
  · have h1 := h.fl i hi3
    rw [Nat.zero_add] at h1
    exact (other _ (by omega)).trans h1
  · exact (other _ (by omega)).trans (h.sd i hi3)
  · show _ < (World.setCell _ _ _).heap.size
    rw [World.size_setCell]; exact h.lt
theorem In5h.set (h : In5h V wr k seq hi l t j f') (f : Int) : In5h V (wr.setCell ⟨V.heap.size, j, none⟩ (.int .u64 f)) k seq hi l t j f :=
  ⟨h.g.set2 (Nat.le_refl _) _, fun i hi3 e => (other _ (by omega)).trans (h.fl i hi3 e), World.cell?_setCell_same _ _ _ h.flj, fun i hi3 => (other _ (by omega)).trans (h.sd i hi3), fun b o hb => (World.frozen?_setCell _ _ _ _).trans (h.fr b o hb), by rw [World.size_setCell]; exact h.lt⟩
theorem In5h.done (h : In5h V wr k seq hi l t j f) (hj : j < 3) (hf : f = flAt l t k seq hi 3 j) (hjk : j ≠ k) (hs : ¬ l j < t j) : In5 V (wr.setCell ⟨V.heap.size + 1, j, none⟩ (.int .u64 0)) k seq hi l t (j + 1) := by
  refine ⟨h.g.set2 (by omega) _, fun i hi3 => ?_, fun i hi3 => ?_, fun b o hb => (World.frozen?_setCell _ _ _ _).trans (h.fr b o hb), by rw [World.size_setCell]; exact h.lt⟩
  · rw [other _ (by omega), Nat.zero_add]
    by_cases e : i = j
    · subst e
      rw [h.flj, hf, wfl, if_pos (by omega)]
    · rw [h.fl i hi3 e]
      unfold wfl
      by_cases e2 : i < j
      · rw [if_pos e2, if_pos (by omega)]
      · rw [if_neg e2, if_neg (by omega)]
  · by_cases e : i = j
    · subst e
      have h0 := h.sd i hi3
      rw [Nat.zero_add] at h0 ⊢
      rw [World.cell?_setCell_same _ _ _ h0, sdAt, if_pos ⟨by omega, hjk, hs⟩]
    · rw [other _ (by omega), h.sd i hi3, sd_succ (.inl e)]
end
end Go.Proofs.YbulkdeduDoor

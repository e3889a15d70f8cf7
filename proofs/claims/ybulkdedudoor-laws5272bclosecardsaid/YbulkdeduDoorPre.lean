import Derived.Test.YbulkdeduDoorIn3
namespace Go.Proofs.YbulkdeduDoor
open Go.RowKit Go.ChangeMaps Go.MapKept

structure Took (w w' : World) (n bb mb k : Nat) (seq gb hi : Int) (l t : Nat → Int) : Prop where
  map : w'.cell? ⟨n + 7, 63, none⟩ = some (.map (some mb))
  obj : w'.heap[mb]? = some (.map (if opn l t k 0 || opn l t k 1 || opn l t k 2 then #[ent (.pointer (some ⟨bb, 0, none⟩))] else #[]) 1)
  gap : w'.cell? ⟨n + 7, 64, none⟩ = some (.int .i64 (gapB l t k gb 3))
  floor : Three w' bb 0 (flAt l t k seq hi 3)
  gapsO : ∀ i, i < 3 → opn l t k i = true → ∃ v, w'.cell? ⟨bb, 3 + i, none⟩ = some v ∧ OneGap w' 0 v (t i) seq
  gapsN : ∀ i, i < 3 → opn l t k i = false → w'.cell? ⟨bb, 3 + i, none⟩ = some (.slice none 0 0)
  saidk : Three w' bb (6 + k * 3) (sdAt l t k 3)
  saido : ∀ m, m < 3 → m ≠ k → Three w' bb (6 + m * 3) (fun _ => 0)
  same : ∀ b o, b < w.heap.size → (b ≠ n + 7 ∨ (o ≠ 63 ∧ o ≠ 64)) → w'.cell? ⟨b, o, none⟩ = w.cell? ⟨b, o, none⟩
  bel : Below (n + 7) w w'
  ord : w.heap.size ≤ bb ∧ bb < w'.heap.size

structure Pre (w V : World) (n lb bb mb k : Nat) (seq gb hi : Int) (l t : Nat → Int) : Prop where
  map : V.cell? ⟨n + 7, 63, none⟩ = some (.map (some mb))
  obj : V.heap[mb]? = some (.map #[ent (.pointer (some ⟨bb, 0, none⟩))] 1)
  gap : V.cell? ⟨n + 7, 64, none⟩ = some (.int .i64 (gapB l t k gb 3))
  last : Three V lb 0 l
  floor : Three V bb 0 (flAt l t k seq hi 3)
  gapsO : ∀ i, i < 3 → opn l t k i = true → ∃ v, V.cell? ⟨bb, 3 + i, none⟩ = some v ∧ OneGap V (mb + 1) v (t i) seq
  gapsN : ∀ i, i < 3 → opn l t k i = false → V.cell? ⟨bb, 3 + i, none⟩ = some (.slice none 0 0)
  saidk : Three V bb (6 + k * 3) (sdAt l t k 3)
  saido : ∀ m, m < 3 → m ≠ k → Three V bb (6 + m * 3) (fun _ => 0)
  fr : ∀ b o, b = bb ∨ b = n + 7 → V.frozen? ⟨b, o, none⟩ = false
  same : ∀ b o, b < w.heap.size → (b ≠ n + 7 ∨ (o ≠ 63 ∧ o ≠ 64)) → V.cell? ⟨b, o, none⟩ = w.cell? ⟨b, o, none⟩
  bel : Below (n + 7) w V
  lt : mb < V.heap.size
  ord : n + 7 < w.heap.size ∧ w.heap.size ≤ lb ∧ lb < bb ∧ bb < mb

section
variable {w wr : World} {n sb lb bb mb k : Nat} {seq gb hi : Int} {l t : Nat → Int}

theorem opn_self : opn l t k k = false := by simp [opn]

theorem In3.pre (h : In3 w wr n sb lb bb mb k seq gb hi l t 3) (hk : k < 3) :
    Pre w (((wr.setCell ⟨bb, 6 + k * 3, none⟩ (.int .u64 (sdAt l t k 3 0))).setCell ⟨bb, 6 + k * 3 + 1, none⟩ (.int .u64 (sdAt l t k 3 1))).setCell ⟨bb, 6 + k * 3 + 2, none⟩ (.int .u64 (sdAt l t k 3 2))).drew n lb bb mb k seq gb hi l t := by
  obtain ⟨o1, o2, o3, o4, o5⟩ := h.ord
  have hlt := h.lt
  have hsz : w.heap.size ≤ wr.heap.size := h.bel.size
  have c : ∀ b o, (b ≠ bb ∨ (o ≠ 6 + k * 3 ∧ o ≠ 6 + k * 3 + 1 ∧ o ≠ 6 + k * 3 + 2)) → (((wr.setCell ⟨bb, 6 + k * 3, none⟩ (.int .u64 (sdAt l t k 3 0))).setCell ⟨bb, 6 + k * 3 + 1, none⟩ (.int .u64 (sdAt l t k 3 1))).setCell ⟨bb, 6 + k * 3 + 2, none⟩ (.int .u64 (sdAt l t k 3 2))).drew.cell? ⟨b, o, none⟩ = wr.cell? ⟨b, o, none⟩ := fun b o hn => by
    rw [World.cell?_drew, other _ (by omega), other _ (by omega), other _ (by omega)]
  refine ⟨(c _ _ (by omega)).trans h.map, ?_, (c _ _ (by omega)).trans h.gap, h.last.keep (fun i _ => c _ _ (by omega)), h.floor.keep (fun i _ => c _ _ (by omega)), fun i hi3 ho => ?_, fun i hi3 ho => (c _ _ (by omega)).trans (h.gapsN i hi3 (fun hc => by rw [ho] at hc; cases hc.2)), fun i hi3 => ?_, fun m hm hmk i hi3 => ?_, fun b o hb => ?_, fun b o hb hn => (c _ _ (by omega)).trans (h.same b o hb hn), ?_, ?_, ⟨o1, by omega, o4, o5⟩⟩
  · show (World.setCell _ _ _).heap[mb]? = _
    rw [Below.heap_setCell _ _ _ _ (by simp; omega), Below.heap_setCell _ _ _ _ (by simp; omega), Below.heap_setCell _ _ _ _ (by simp; omega)]; exact h.obj
  · obtain ⟨v, hv, hg⟩ := h.gapsO i hi3 hi3 ho
    exact ⟨v, (c _ _ (by omega)).trans hv, hg.keep (Nat.le_refl _) (fun b o hb _ => c _ _ (by omega)) (by show _ ≤ (World.setCell _ _ _).heap.size; simp only [World.size_setCell]; exact Nat.le_refl _)⟩
  · have hz : wr.cell? ⟨bb, 6 + k * 3 + i, none⟩ = some (.int .u64 0) := by have := h.said (k * 3 + i) (by omega); rw [← Nat.add_assoc] at this; exact this
    obtain rfl | rfl | rfl : i = 0 ∨ i = 1 ∨ i = 2 := by omega
    · rw [World.cell?_drew, other _ (by omega), other _ (by omega)]; exact World.cell?_setCell_same _ _ _ hz
    · rw [World.cell?_drew, other _ (by omega)]; exact World.cell?_setCell_same _ _ _ ((other _ (by omega)).trans hz)
    · rw [World.cell?_drew]; exact World.cell?_setCell_same _ _ _ ((other _ (by omega)).trans ((other _ (by omega)).trans hz))
  · rw [c _ _ (by omega)]
    have := h.said (m * 3 + i) (by omega)
    rw [← Nat.add_assoc] at this
    exact this
  · rw [World.frozen?_drew, World.frozen?_setCell, World.frozen?_setCell, World.frozen?_setCell]; exact h.fr b o (by omega)
  · exact (((h.bel.setCell (p := ⟨bb, 6 + k * 3, none⟩) (by simp; omega) _).setCell (p := ⟨bb, 6 + k * 3 + 1, none⟩) (by simp; omega) _).setCell (p := ⟨bb, 6 + k * 3 + 2, none⟩) (by simp; omega) _).drew
  · show mb < (World.setCell _ _ _).heap.size
    simp only [World.size_setCell]; exact hlt

theorem Pre.close {V w3 : World} (h : Pre w V n lb bb mb k seq gb hi l t) (hk : k < 3) (hc : Chg V w3 bb (fun b o => b = bb ∧ o = 3 + k)) (hv : w3.cell? ⟨bb, 3 + k, none⟩ = some (.slice none 0 0)) :
    Pre w (w3.setCell ⟨n + 7, 64, none⟩ (.int .i64 (gapB l t k gb 3))) n lb bb mb k seq gb hi l t := by
  obtain ⟨o1, o2, o3, o4⟩ := h.ord
  have hlt := h.lt
  have hsz : w.heap.size ≤ V.heap.size := h.bel.size
  have c : ∀ b o, b < V.heap.size → ¬ (b = bb ∧ o = 3 + k) → ¬ (b = n + 7 ∧ o = 64) → (w3.setCell ⟨n + 7, 64, none⟩ (.int .i64 (gapB l t k gb 3))).cell? ⟨b, o, none⟩ = V.cell? ⟨b, o, none⟩ := fun b o hb h1 h2 => by rw [other _ (by omega)]; exact hc.same b o hb h1
  refine ⟨(c _ _ (by omega) (by omega) (by omega)).trans h.map, ?_, World.cell?_setCell_same _ _ _ ((hc.same _ _ (by omega) (by omega)).trans h.gap), h.last.keep (fun i _ => c _ _ (by omega) (by omega) (by omega)), h.floor.keep (fun i _ => c _ _ (by omega) (by omega) (by omega)), fun i hi3 ho => ?_, fun i hi3 ho => ?_, h.saidk.keep (fun i _ => c _ _ (by omega) (by omega) (by omega)), fun m hm hmk => (h.saido m hm hmk).keep (fun i _ => c _ _ (by omega) (by omega) (by omega)), fun b o hb => (World.frozen?_setCell _ _ _ _).trans ((hc.fr b o (by omega)).trans (h.fr b o hb)), fun b o hb hn => (c _ _ (by omega) (by omega) (by omega)).trans (h.same b o hb hn), (h.bel.trans (hc.bel.mono (by omega))).setCell (p := ⟨n + 7, 64, none⟩) (Nat.le_refl _) _, by rw [World.size_setCell]; exact Nat.lt_of_lt_of_le hlt hc.bel.size, h.ord⟩
  · rw [Below.heap_setCell _ _ _ _ (by simp; omega), hc.objs mb hlt (fun o ho => by omega)]; exact h.obj
  · have hik : i ≠ k := fun e => by rw [e, opn_self] at ho; cases ho
    obtain ⟨v, hv', hg⟩ := h.gapsO i hi3 ho
    exact ⟨v, (c _ _ (by omega) (by omega) (by omega)).trans hv', hg.keep (Nat.le_refl _) (fun b o hb hb2 => c _ _ hb2 (by omega) (by omega)) (by rw [World.size_setCell]; exact hc.bel.size)⟩
  · by_cases e : i = k
    · subst e; rw [other _ (by omega)]; exact hv
    · exact (c _ _ (by omega) (by omega) (by omega)).trans (h.gapsN i hi3 ho)

theorem Pre.drew {V : World} (h : Pre w V n lb bb mb k seq gb hi l t) : Pre w V.drew n lb bb mb k seq gb hi l t :=
  ⟨h.map, h.obj, h.gap, h.last, h.floor, fun i hi3 ho => by
    obtain ⟨v, hv, hg⟩ := h.gapsO i hi3 ho
    exact ⟨v, hv, hg.keep (Nat.le_refl _) (fun _ _ _ _ => rfl) (Nat.le_refl _)⟩, h.gapsN, h.saidk, h.saido, h.fr, h.same, h.bel.drew, h.lt, h.ord⟩

theorem Pre.slices {V : World} (h : Pre w V n lb bb mb k seq gb hi l t) (i : Nat) (hi3 : i < 3) : ∃ a m c, V.cell? ⟨bb, 3 + i, none⟩ = some (.slice a m c) ∧ decide (m = 0) = !(opn l t k i) := by
  cases ho : opn l t k i with
  | true =>
    obtain ⟨v, hv, g, c, rfl, _⟩ := h.gapsO i hi3 ho
    exact ⟨_, _, _, hv, rfl⟩
  | false => exact ⟨_, _, _, h.gapsN i hi3 ho, rfl⟩

theorem Pre.quiet {V : World} (h : Pre w V n lb bb mb k seq gb hi l t) :
    Calls Ybad.prog 13 #[.pointer (some ⟨bb, 0, none⟩)] V fun e w' => e = .returned (.bool (!(opn l t k 0 || opn l t k 1 || opn l t k 2))) ∧ w' = V := by
  obtain ⟨a0, n0, c0, q0, d0⟩ := h.slices 0 (by decide)
  obtain ⟨a1, n1, c1, q1, d1⟩ := h.slices 1 (by decide)
  obtain ⟨a2, n2, c2, q2, d2⟩ := h.slices 2 (by decide)
  refine (quiet_any bb (fun i => if i = 0 then a0 else if i = 1 then a1 else a2) (fun i => if i = 0 then n0 else if i = 1 then n1 else n2) (fun i => if i = 0 then c0 else if i = 1 then c1 else c2) V q0 q1 q2).mono ?_
  rintro e w' ⟨rfl, rfl⟩
  refine ⟨?_, rfl⟩
  have : (decide (n0 = 0) && decide (n1 = 0) && decide (n2 = 0)) = !(opn l t k 0 || opn l t k 1 || opn l t k 2) := by
    rw [d0, d1, d2]
    cases opn l t k 0 <;> cases opn l t k 1 <;> cases opn l t k 2 <;> rfl
  rw [← this]
  rfl

theorem Pre.took {V : World} (h : Pre w V n lb bb mb k seq gb hi l t) (hq : (opn l t k 0 || opn l t k 1 || opn l t k 2) = true) : Took w V n bb mb k seq gb hi l t := by
  obtain ⟨o1, o2, o3, o4⟩ := h.ord
  have hlt := h.lt
  refine ⟨h.map, by rw [if_pos hq]; exact h.obj, h.gap, h.floor, fun i hi3 ho => ?_, h.gapsN, h.saidk, h.saido, h.same, h.bel, by omega, by omega⟩
  obtain ⟨v, hv, hg⟩ := h.gapsO i hi3 ho
  exact ⟨v, hv, hg.keep (Nat.zero_le _) (fun _ _ _ _ => rfl) (Nat.le_refl _)⟩

theorem Pre.del {V : World} (h : Pre w V n lb bb mb k seq gb hi l t) (hq : (opn l t k 0 || opn l t k 1 || opn l t k 2) = false) : Took w (setBlock V mb (.map #[] 1)) n bb mb k seq gb hi l t := by
  obtain ⟨o1, o2, o3, o4⟩ := h.ord
  have hlt := h.lt
  have c := setBlock_cell h.obj #[] 1
  have hs : (setBlock V mb (.map #[] 1)).heap.size = V.heap.size := by simp [setBlock]
  refine ⟨(c _ _).trans h.map, by rw [if_neg (by rw [hq]; decide)]; exact heap_setBlock_same h.obj _, (c _ _).trans h.gap, h.floor.keep (fun i _ => c _ _), fun i hi3 ho => ?_, fun i hi3 ho => (c _ _).trans (h.gapsN i hi3 ho), h.saidk.keep (fun i _ => c _ _), fun m hm hmk => (h.saido m hm hmk).keep (fun i _ => c _ _), fun b o hb hn => (c _ _).trans (h.same b o hb hn), setBlock_below h.bel h.obj (by omega) _, by omega, by rw [hs]; omega⟩
  obtain ⟨v, hv, hg⟩ := h.gapsO i hi3 ho
  exact ⟨v, (c _ _).trans hv, hg.keep (Nat.zero_le _) (fun b o _ _ => c _ _) (by rw [hs]; exact Nat.le_refl _)⟩

theorem gapB_range (hb1 : -9223372036854775808 ≤ gb) (hb2 : gb < 9223372036854775808) : ∀ j, IntKind.i64.wrap (gapB l t k gb j) = gapB l t k gb j
  | 0 => by rw [IntKind.wrap_i64, gapB]; omega
  | j + 1 => by
    rw [gapB]
    split
    · simp only [IntKind.wrap_i64]; omega
    · exact gapB_range hb1 hb2 j
end
end Go.Proofs.YbulkdeduDoor

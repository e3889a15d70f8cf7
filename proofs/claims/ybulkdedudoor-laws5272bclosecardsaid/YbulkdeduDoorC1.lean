import Derived.Test.YbulkdeduDoorW4
import Derived.Test.YbulkdeduDoorMap
import Derived.Deep.RegionLaw
import Derived.Laws.IdiomCopy
namespace Go.Proofs.YbulkdeduDoor
open Go.RowKit

/-- n numbers as cells -/
def nums (n : Nat) (F : Nat → Int) : List Value := (List.range n).map fun j => .int .u64 (F j)
theorem nums_len (n : Nat) (F : Nat → Int) : (nums n F).length = n := by simp [nums]
theorem nums_at {n : Nat} {F : Nat → Int} {j : Nat} {u : Value} (h : (nums n F)[j]? = some u) : j < n ∧ u = .int .u64 (F j) := by
  have hj : j < n := by have := (List.getElem?_eq_some_iff.1 h).1; rwa [nums_len] at this
  refine ⟨hj, ?_⟩
  simp [nums, hj] at h
  exact h.symm
theorem nums_one {n : Nat} {F : Nat → Int} : ∀ u ∈ nums n F, u.oneCell' = true := by
  intro u hu
  obtain ⟨j, _, rfl⟩ := List.mem_map.1 hu
  rfl

theorem size_setCells' (b : Nat) : ∀ (vs : List Value) (o : Nat) (w : World), (w.setCells b o vs).heap.size = w.heap.size
  | [], _, _ => rfl
  | v :: vs, o, w => by rw [World.setCells, size_setCells' b vs, World.size_setCell]
theorem heap_setCells' (b : Nat) {x : Nat} (hx : x ≠ b) : ∀ (vs : List Value) (o : Nat) (w : World), (w.setCells b o vs).heap[x]? = w.heap[x]?
  | [], _, _ => rfl
  | v :: vs, o, w => by rw [World.setCells, heap_setCells' b hx vs, Below.heap_setCell _ _ _ _ (by simp; omega)]
theorem below_setCells' {B : Nat} {w : World} (b : Nat) (hb : B ≤ b) : ∀ (vs : List Value) (o : Nat) {W : World}, Below B w W → Below B w (W.setCells b o vs)
  | [], _, _, h => h
  | v :: vs, o, W, h => by rw [World.setCells]; exact below_setCells' b hb vs _ (h.setCell (p := ⟨b, o, none⟩) hb v)

theorem Chg.setCells {w W : World} {B : Nat} {S : Nat → Nat → Prop} (h : Chg w W B S) {b : Nat} (hB : B ≤ b) (hS : ∀ o, S b o) (o : Nat) (vs : List Value) : Chg w (W.setCells b o vs) B S :=
  ⟨fun b' o' hb hn => (World.cell?_setCells_out b vs o W ⟨b', o', none⟩ (fun e _ => by have e' : b' = b := e; subst e'; exact absurd (hS o') hn)).trans (h.same b' o' hb hn), fun b' o' hb => (World.frozen?_setCells b vs o W _).trans (h.fr b' o' hb), below_setCells' b hB vs o h.bel, fun b' hb hn => (heap_setCells' b (fun e => by subst e; exact hn 0 (hS 0)) vs o W).trans (h.objs b' hb hn)⟩
theorem Chg.drewN {w W : World} {B : Nat} {S : Nat → Nat → Prop} (h : Chg w W B S) (d : Nat) : Chg w (W.drewN d) B S := ⟨h.same, h.fr, below_drewN' h.bel d, h.objs⟩
theorem Chg.refl (w : World) {B : Nat} (hB : B ≤ w.heap.size) (S : Nat → Nat → Prop) : Chg w w B S := (Grew.refl w).chg hB S


theorem zeros_nums (n : Nat) : (Builtin.zeroCells #[.int .u64 0, .int .u64 0] n).toList = nums (2 * n) (fun _ => 0) := by
  apply List.ext_getElem?
  intro j
  by_cases hj : j < 2 * n
  · have h2 : j % 2 = 0 ∨ j % 2 = 1 := by omega
    have hn2 : j < n * 2 := by omega
    rcases h2 with h2 | h2
    all_goals simp [Builtin.zeroCells, nums, hj, h2, hn2]
  · have hn2 : ¬ j < n * 2 := by omega
    simp [Builtin.zeroCells, nums, hj, hn2]

/-- 'clear' of n gaps -/
theorem clear_gaps (w : World) (ty : TypeId) (b o n c : Nat) (hn : 0 < n) (hc : ∀ j, j < 2 * n → (w.cell? ⟨b, o + j, none⟩).isSome = true) (hf : ∀ j, j < 2 * n → w.frozen? ⟨b, o + j, none⟩ = false) :
    (Builtin.clear_ #[72] ty #[.slice (some ⟨b, o, none⟩) n c]).run Ybad.prog w = .ok (.tuple #[]) (w.setCells b o (nums (2 * n) (fun _ => 0))) := by
  have hst := run_storeCells_cells (P := Ybad.prog) b o (nums (2 * n) (fun _ => 0)) 0 w (by rw [nums_len]; simpa using hc) (by rw [nums_len]; simpa using hf) nums_one
  simp only [Nat.add_zero] at hst
  obtain ⟨m, rfl⟩ : ∃ m, n = m + 1 := ⟨n - 1, by omega⟩
  simp [Builtin.clear_, run_underlying Ybad.underlying72, Value.cells, zeros_nums, hst]

set_option maxRecDepth 100000 in
set_option maxHeartbeats 1000000 in
theorem delete_some (g m cp c : Nat) (F : Nat → Int) (w : World) (hc0 : 0 < c) (hcm : c ≤ m) (hm : m ≤ cp) (hcell : ∀ j, j < 2 * m → w.cell? ⟨g, j, none⟩ = some (.int .u64 (F j))) (hfr : ∀ j, j < 2 * m → w.frozen? ⟨g, j, none⟩ = false) :
    Calls Ybad.prog 20 #[.slice (some ⟨g, 0, none⟩) m cp, .int .i64 0, .int .i64 c] w fun e w' => e = .returned (.slice (some ⟨g, 0, none⟩) (m - c) cp) ∧ (∀ j, j < 2 * (m - c) → w'.cell? ⟨g, j, none⟩ = some (.int .u64 (F (2 * c + j)))) ∧ Chg w w' g (fun b _ => b = g) := by
  obtain ⟨i0, hi, hz0, hz1, hz2⟩ := info_parts Ybad.info78
  have hg : g < w.heap.size := World.block_lt_of_cell? (a := ⟨g, 0, none⟩) _ (hcell 0 (by omega))
  obtain ⟨news, hnews⟩ : ∃ news, news = nums (2 * (m - c)) (fun j => F (2 * c + j)) := ⟨_, rfl⟩
  have hlen : news.length = 2 * (m - c) := by rw [hnews, nums_len]
  obtain ⟨A, hA, hsrc⟩ : ∃ A : Addr, (if cp = c then some (⟨g, 0, none⟩ : Addr) else some ⟨g, c * 2, none⟩) = some A ∧ Hid (∀ t u, news[t]? = some u → w.drew.cell? (A.add t) = some u) := by
    by_cases h : cp = c
    · refine ⟨⟨g, 0, none⟩, by simp [h], fun t u hu => ?_⟩
      have := (List.getElem?_eq_some_iff.1 hu).1
      omega
    · refine ⟨⟨g, c * 2, none⟩, by simp [h], fun t u hu => ?_⟩
      rw [hnews] at hu
      obtain ⟨ht, rfl⟩ := nums_at hu
      rw [Addr.add_lit]
      have := hcell (2 * c + t) (by omega)
      rw [show c * 2 + t = 2 * c + t by omega]
      exact this
  have s1 : Hid (news.length = (m - c) * 2) := by show _ = _; rw [hlen]; omega
  have s2 : Hid (∀ u ∈ news, u.oneCell' = true) := by rw [hnews]; exact nums_one
  have s3 : Hid (∀ t, t < news.length → (w.drew.cell? ⟨g, 0 + 0 * 2 + t, none⟩).isSome = true ∧ w.drew.frozen? ⟨g, 0 + 0 * 2 + t, none⟩ = false) := by
    intro t ht
    rw [hlen] at ht
    simp only [Nat.zero_mul, Nat.zero_add]
    exact ⟨by show (w.cell? _).isSome = true; rw [hcell t (by omega)]; rfl, hfr t (by omega)⟩
  obtain ⟨W1, hW1⟩ : ∃ W1, W1 = w.drew.setCells g (0 + 0 * 2) news := ⟨_, rfl⟩
  have hsome : ∀ j, j < 2 * m → (w.drew.cell? ⟨g, j, none⟩).isSome = true := fun j hj => by show (w.cell? _).isSome = true; rw [hcell j hj]; rfl
  have hW1c : ∀ j, j < 2 * (m - c) → W1.cell? ⟨g, j, none⟩ = some (.int .u64 (F (2 * c + j))) := fun j hj => by
    have h1 := World.cell?_setCells_in g news 0 w.drew (fun t ht => by rw [Nat.zero_add]; exact hsome t (by omega)) j (by omega)
    rw [Nat.zero_add] at h1
    rw [hW1]
    refine h1.trans ?_
    have : news[j]? = some (.int .u64 (F (2 * c + j))) := by rw [hnews]; simp [nums, hj]
    rw [← this]
    exact (List.getElem?_eq_getElem (by omega)).symm
  have hW1s : ∀ j, j < 2 * m → (W1.cell? ⟨g, j, none⟩).isSome = true := fun j hj => by
    by_cases h : j < 2 * (m - c)
    · rw [hW1c j h]; rfl
    · rw [hW1, World.cell?_setCells_out g news _ _ _ (fun _ _ => .inr (by rw [hlen]; show 0 + 0 * 2 + _ ≤ j; omega))]
      exact hsome j hj
  have hW1f : ∀ j, j < 2 * m → W1.frozen? ⟨g, j, none⟩ = false := fun j hj => by rw [hW1, World.frozen?_setCells]; exact hfr j hj
  have hC1 : Chg w W1 g (fun b _ => b = g) := by rw [hW1]; exact ((Chg.refl w (by omega) _).drewN 1).setCells (Nat.le_refl _) (fun _ => rfl) _ _
  have hcl : ∀ ty, (Builtin.clear_ #[72] ty #[.slice (some ⟨g, (m - c) * 2, none⟩) (m - (m - c)) (cp - (m - c))]).run Ybad.prog W1 = .ok (.tuple #[]) (W1.setCells g ((m - c) * 2) (nums (2 * (m - (m - c))) (fun _ => 0))) :=
    fun ty => clear_gaps W1 ty g ((m - c) * 2) _ _ (by omega) (fun t ht => hW1s _ (by omega)) (fun t ht => hW1f _ (by omega))
  have HP : Hid ((∀ j, j < 2 * (m - c) → (W1.setCells g ((m - c) * 2) (nums (2 * (m - (m - c))) (fun _ => 0))).cell? ⟨g, j, none⟩ = some (.int .u64 (F (2 * c + j)))) ∧ Chg w (W1.setCells g ((m - c) * 2) (nums (2 * (m - (m - c))) (fun _ => 0))) g (fun b _ => b = g)) := by
    refine ⟨fun j hj => ?_, hC1.setCells (Nat.le_refl _) (fun _ => rfl) _ _⟩
    rw [World.cell?_setCells_out g _ _ _ _ (fun _ _ => .inl (by show j < _; omega))]
    exact hW1c j hj
  have hW : Hid (W1 = w.drew.setCells g (0 + 0 * 2) news) := hW1
  have hne : ((0 : Int) == (c : Int)) = false := by simp; omega
  have hcc : c ≤ cp := by omega
  clear hW1 hW1c hW1s hW1f hC1 hcell hfr hsome hnews hlen
  go_enter Ybad.func20, Ybad.ntmps20
  go_wp2_with fail
  go_region_law (refine step_append_room rfl (.tmp 22) (.tmp 25) 72 rfl 78 i0 2 Ybad.underlying72 hi hz1 g 0 0 cp (by simp [Act.eval, Act.put]) A (m - c) (cp - c) news (by simp [Act.eval, Act.put]) s1.out hsrc.out s2.out (by omega) s3.out ?_; rw [← hW.out])
  go_wp2
  go_ret
  exact ⟨rfl, HP.out⟩
end Go.Proofs.YbulkdeduDoor

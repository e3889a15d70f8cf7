/- the plain part of the insertion sort: adjacent swaps, the sorted row is one -/
import Derived.Test.YbulkdegmMd
namespace Go.Proofs.Ybulkdegm
open Go.RowKit

def rowL (s : Nat → Int) (n : Nat) : List Int := (List.range n).map s
def swp (s : Nat → Int) (p j : Nat) : Int := if j = p then s (p + 1) else if j = p + 1 then s p else s j

theorem range_split (p k : Nat) : List.range (p + (k + 2)) = List.range p ++ (p :: (p + 1) :: List.range' (p + 2) k) := by
  rw [List.range_eq_range', List.range_eq_range', ← List.range'_append_1, Nat.zero_add, List.range'_succ, List.range'_succ]
theorem swap_perm (s : Nat → Int) (p n : Nat) (h : p + 1 < n) : (rowL (swp s p) n).Perm (rowL s n) := by
  obtain ⟨k, rfl⟩ : ∃ k, n = p + (k + 2) := ⟨n - p - 2, by omega⟩
  unfold rowL
  rw [range_split, List.map_append, List.map_append, List.map_cons, List.map_cons, List.map_cons, List.map_cons]
  have e1 : (List.range p).map (swp s p) = (List.range p).map s := List.map_congr_left (fun j hj => by
    have := List.mem_range.1 hj
    rw [swp, if_neg (by omega), if_neg (by omega)])
  have e2 : (List.range' (p + 2) k).map (swp s p) = (List.range' (p + 2) k).map s := List.map_congr_left (fun j hj => by
    have := (List.mem_range'_1.1 hj).1
    rw [swp, if_neg (by omega), if_neg (by omega)])
  have e3 : swp s p p = s (p + 1) := by rw [swp, if_pos rfl]
  have e4 : swp s p (p + 1) = s p := by rw [swp, if_neg (by omega), if_pos rfl]
  rw [e1, e2, e3, e4]
  exact List.Perm.append_left _ (List.Perm.swap _ _ _)

theorem srt_eq {s : Nat → Int} {n : Nat} {zs : List Int} (hp : (rowL s n).Perm zs) (hs : ∀ a b, a < b → b < n → s a ≤ s b) {j : Nat} (hj : j < n) : s j = srt zs j := by
  have hpw : (rowL s n).Pairwise (fun a b => decide (a ≤ b) = true) := by
    rw [List.pairwise_iff_getElem]
    intro a b ha hb hab
    simp only [rowL, List.length_map, List.length_range] at ha hb
    simp only [rowL, List.getElem_map, List.getElem_range, decide_eq_true_eq]
    exact hs a b hab hb
  have tr : ∀ a b c : Int, decide (a ≤ b) = true → decide (b ≤ c) = true → decide (a ≤ c) = true := fun a b c h1 h2 => by simp only [decide_eq_true_eq] at *; omega
  have to : ∀ a b : Int, (decide (a ≤ b) || decide (b ≤ a)) = true := fun a b => by simp only [Bool.or_eq_true, decide_eq_true_eq]; omega
  have e : rowL s n = zs.mergeSort fun x y => decide (x ≤ y) :=
    List.Perm.eq_of_pairwise (le := fun a b => decide (a ≤ b) = true) (fun a b _ _ h1 h2 => by simp only [decide_eq_true_eq] at h1 h2; omega) hpw (List.pairwise_mergeSort tr to zs) (hp.trans (List.mergeSort_perm _ _).symm)
  unfold srt
  rw [← e]
  simp [rowL, hj]
theorem med_eq {s : Nat → Int} {n : Nat} {zs : List Int} (hp : (rowL s n).Perm zs) (hs : ∀ a b, a < b → b < n → s a ≤ s b) (hn : 0 < n) : medOf s n = medOf (srt zs) n := by
  unfold medOf
  rw [srt_eq hp hs (show n / 2 < n by omega), srt_eq hp hs (show n / 2 - 1 < n by omega)]

/-- the first i + 1 in order but for the one at j -/
def Ins (s : Nat → Int) (i j : Nat) : Prop := ∀ a b, a < b → b ≤ i → b ≠ j → s a ≤ s b
theorem Ins.step {s : Nat → Int} {i p : Nat} (h : Ins s i (p + 1)) (hpi : p + 1 ≤ i) (hlt : s (p + 1) < s p) : Ins (swp s p) i p := by
  intro a b hab hbi hbp
  by_cases e1 : b = p + 1
  · subst e1
    rw [show swp s p (p + 1) = s p by rw [swp, if_neg (by omega), if_pos rfl]]
    by_cases e2 : a = p
    · subst e2; rw [swp, if_pos rfl]; omega
    · rw [swp, if_neg e2, if_neg (by omega)]; exact h a p (by omega) (by omega) (by omega)
  · have eb : swp s p b = s b := by rw [swp, if_neg hbp, if_neg e1]
    rw [eb]
    by_cases e2 : a = p
    · subst e2; rw [swp, if_pos rfl]; exact h (a + 1) b (by omega) hbi (by omega)
    · by_cases e3 : a = p + 1
      · subst e3; rw [swp, if_neg (by omega), if_pos rfl]; exact h p b (by omega) hbi e1
      · rw [swp, if_neg e2, if_neg e3]; exact h a b hab hbi e1
theorem Ins.done {s : Nat → Int} {i j : Nat} (h : Ins s i j) (hj : j ≤ i) (hle : j = 0 ∨ s (j - 1) ≤ s j) : ∀ a b, a < b → b < i + 1 → s a ≤ s b := by
  intro a b hab hb
  by_cases e : b = j
  · subst e
    rcases hle with h0 | h0
    · omega
    · by_cases e2 : a = b - 1
      · rw [e2]; exact h0
      · have := h a (b - 1) (by omega) (by omega) (by omega)
        omega
  · exact h a b hab (by omega) e
end Go.Proofs.Ybulkdegm

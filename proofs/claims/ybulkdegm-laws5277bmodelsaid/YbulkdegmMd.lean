import Derived.Test.YbulkdegmSo
import Derived.Test.YbulkdegmFl
import Derived.WalkSpells
import Derived.BigQuiet
import Derived.Deep.QuietTactic
import Derived.Deep.RegionHeld3
import Derived.Below
namespace Go.Proofs.Ybulkdegm
open Go.RowKit Go.Shelf Go.Sort

theorem absW {P : World → Prop} {w : World} (F : World → Prop) (hF : F w) (h : ∀ W, F W → P W) : P w := h w hF
theorem below_drewN' {B : Nat} {w W : World} (h : Below B w W) (d : Nat) : Below B w (W.drewN d) := h.trans ⟨rfl, rfl, rfl, Nat.le_refl _, fun _ _ => rfl⟩

/-- the median of a sorted row -/
def medOf (s : Nat → Int) (n : Nat) : Int :=
  if n % 2 = 1 then s (n / 2) else wrap64 (s (n / 2 - 1) + wrap64 (Int.tdiv (wrap64 (s (n / 2) - s (n / 2 - 1))) 2))

set_option maxRecDepth 100000 in
theorem median_nil (b : Int) (ao : Option Addr) (c : Nat) (w : World) : Calls Yba.prog 7 #[.agg #[.int .i64 b, .slice ao 0 c]] w fun e w' => e = .returned (.int .i64 0) ∧ Below w.heap.size w w' := by
  go_enter Yba.func7, Yba.ntmps7
  go_wp2
  go_ret
  exact ⟨rfl, (Below.refl _ w).alloc (Nat.le_refl _) _⟩

theorem values_any (a : Option Addr) (len cap : Nat) (w : World) :
    Calls Yba.prog 11 #[.slice a len cap] w fun e w' => e = .returned (.func (.func 15) #[] #[.pointer (some ⟨w.heap.size, 0, none⟩)]) ∧ w' = w.alloc (.cells #[.slice a len cap] 23) := by
  have h := (callsIn_wide (n := 6)).1 (values_in Fence.wide 6 trivial rfl a len cap w)
  exact h

/-- the sorted row -/
noncomputable def srt (zs : List Int) (j : Nat) : Int := (zs.mergeSort fun x y => decide (x ≤ y))[j]?.getD 0

theorem sorted_vals (tb off n c : Nat) (zs : List Int) (hn : n = zs.length) (hne : zs ≠ []) (hlen : zs.length ≤ 1024) (w W : World) (htb : tb < w.heap.size) (hcs : ∀ j, j < zs.length → w.cell? ⟨tb, off + j, none⟩ = some (.int .i64 (zs[j]?.getD 0))) (hb : Below w.heap.size w W) :
    Calls Yba.prog 10 #[.func (.func 15) #[] #[.pointer (some ⟨W.heap.size, 0, none⟩)]] (W.alloc (.cells #[.slice (some ⟨tb, off, none⟩) n c] 23)) fun e W' => ∃ g c, e = .returned (.slice (some ⟨g, 0, none⟩) n c) ∧ n ≤ c ∧ (∀ j, j < n → W'.cell? ⟨g, j, none⟩ = some (.int .i64 (srt zs j))) ∧ Below w.heap.size w W' := by
  have hA : Below W.heap.size W (W.alloc (.cells #[.slice (some ⟨tb, off, none⟩) n c] 23)) := (Below.refl _ W).alloc (Nat.le_refl _) _
  have hW : w.heap.size ≤ W.heap.size := hb.size
  have hI : IntsAt (W.alloc (.cells #[.slice (some ⟨tb, off, none⟩) n c] 23)).heap.size (W.alloc (.cells #[.slice (some ⟨tb, off, none⟩) n c] 23)) (.slice (some ⟨tb, off, none⟩) n c) zs := by
    refine ⟨tb, off, c, by rw [hn], by simp; omega, fun j hj => ?_⟩
    rw [hA.cell (p := ⟨tb, off + j, none⟩) (by show tb < W.heap.size; omega), hb.cell (p := ⟨tb, off + j, none⟩) htb]; exact hcs j hj
  have h := sorted_any W.heap.size (.slice (some ⟨tb, off, none⟩) n c) zs hne hlen _ (by simp) (World.cell?_alloc_at _ _ _ _ rfl) hI
  refine h.mono ?_
  rintro e W' ⟨g, c', rfl, h1, h2, h3⟩
  subst hn
  exact ⟨g, c', rfl, h1, h2, hb.trans ((hA.mono hW).trans (h3.mono (by simp; omega)))⟩

set_option maxRecDepth 100000 in
set_option maxHeartbeats 1000000 in
theorem median_any (b : Int) (tb off n c : Nat) (zs : List Int) (hn : n = zs.length) (hne : zs ≠ []) (hlen : zs.length ≤ 1024) (w : World) (htb : tb < w.heap.size) (hcs : ∀ j, j < zs.length → w.cell? ⟨tb, off + j, none⟩ = some (.int .i64 (zs[j]?.getD 0))) :
    Calls Yba.prog 7 #[.agg #[.int .i64 b, .slice (some ⟨tb, off, none⟩) n c]] w fun e w' => e = .returned (.int .i64 (medOf (srt zs) n)) ∧ Below w.heap.size w w' := by
  have hn0 : 0 < n := by rw [hn]; exact List.length_pos_iff.2 hne
  have HS : Hid (∀ W, Below w.heap.size w W → Calls Yba.prog 10 #[.func (.func 15) #[] #[.pointer (some ⟨W.heap.size, 0, none⟩)]] (W.alloc (.cells #[.slice (some ⟨tb, off, none⟩) n c] 23)) fun e W' => ∃ g c, e = .returned (.slice (some ⟨g, 0, none⟩) n c) ∧ n ≤ c ∧ (∀ j, j < n → W'.cell? ⟨g, j, none⟩ = some (.int .i64 (srt zs j))) ∧ Below w.heap.size w W') := fun W hb => sorted_vals tb off n c zs hn hne hlen w W htb hcs hb
  have hn1 : ¬ (n : Int) = 0 := by omega
  have hn2 : n ≤ 1024 := by omega
  clear hcs hn hne hlen
  go_enter Yba.func7, Yba.ntmps7
  go_wp2_with fail
  obtain ⟨W0, hW0, hb0⟩ : ∃ W0, w.alloc (.cells #[.int .i64 b, .slice (some ⟨tb, off, none⟩) n c] 27) = W0 ∧ Below w.heap.size w W0 := ⟨_, rfl, (Below.refl _ w).alloc (Nat.le_refl _) _⟩
  rw [hW0]
  have HC := HS.out W0 hb0
  clear HS hW0 hb0
  refine (values_any (some ⟨tb, off, none⟩) n c W0).mono ?_
  rintro e w1 ⟨rfl, rfl⟩
  go_wp2_with fail
  refine HC.mono ?_
  rintro e W ⟨g, c', rfl, h1, h2, h3⟩
  have HB : Hid (Below w.heap.size w W) := h3
  clear HC h3
  by_cases hodd : n % 2 = 1
  · have x1 := h2 (n / 2) (by omega)
    have HR : Hid (medOf (srt zs) n = srt zs (n / 2)) := by show _ = _; rw [medOf, if_pos hodd]
    have hr : (n : Int) % 2 = 1 := by omega
    clear h2
    go_wp2
    go_ret
    exact ⟨by rw [HR.out]; rfl, HB.out⟩
  · have x1 := h2 (n / 2) (by omega)
    have x2 := h2 (n / 2 - 1) (by omega)
    have hr : (n : Int) % 2 = 0 := by omega
    have HR : Hid (medOf (srt zs) n = wrap64 (srt zs (n / 2 - 1) + wrap64 (Int.tdiv (wrap64 (srt zs (n / 2) - srt zs (n / 2 - 1))) 2))) := by show _ = _; rw [medOf, if_neg hodd]
    clear h2
    go_wp2
    go_quiet (fail)
    go_wp2
    go_ret
    exact ⟨by rw [HR.out]; rfl, below_drewN' HB.out _⟩
end Go.Proofs.Ybulkdegm

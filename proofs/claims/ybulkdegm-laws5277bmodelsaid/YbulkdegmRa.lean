import Derived.Test.YbulkdegmZm
import Derived.OpenShut
namespace Go.Proofs.Ybulkdegm
open Go.RowKit

/-- Seconds, its bits -/
def secsOf (d : Int) : Nat := (floatBits .add .f64 (floatOfInt .f64 (wrap64 (d.tdiv 1000000000))) ((floatBits .quo .f64 (floatOfInt .f64 (d.tmod 1000000000)) 4741671816366391296).getD 0)).getD 0
def mibOf (b : Int) : Nat := (floatBits .quo .f64 (floatOfInt .f64 b) 4697254411347427328).getD 0
def rateOf (b d : Int) : Nat := (floatBits .quo .f64 (mibOf b) (secsOf d)).getD 0

theorem wrap64_abs (x : Int) : (wrap64 x).natAbs < 18446744073709551616 := by
  have h := bounds_i64 (wrap64_wf x)
  omega
theorem secs_ex (d : Int) : ∃ q, floatBits .quo .f64 (floatOfInt .f64 (d.tmod 1000000000)) 4741671816366391296 = some q ∧ floatBits .add .f64 (floatOfInt .f64 (wrap64 (d.tdiv 1000000000))) q = some (secsOf d) ∧ Ok (secsOf d) := by
  obtain ⟨q, r, h1, h2, h3⟩ := secs_some (wrap64 (d.tdiv 1000000000)) (d.tmod 1000000000) (wrap64_abs _) (by rw [Int.natAbs_tmod]; exact Nat.lt_of_lt_of_le (Nat.mod_lt _ (by decide)) (by decide))
  have e : secsOf d = r := by unfold secsOf; rw [h1]; simp only [Option.getD_some]; rw [h2]; rfl
  exact ⟨q, h1, by rw [e]; exact h2, by rw [e]; exact h3⟩
theorem mib_ex (b : Int) (hb : b.natAbs < 18446744073709551616) (h0 : b ≠ 0) : floatBits .quo .f64 (floatOfInt .f64 b) 4697254411347427328 = some (mibOf b) ∧ Fin' (mibOf b) := by
  obtain ⟨r, h1, h2⟩ := mib_some b hb h0
  have e : mibOf b = r := by unfold mibOf; rw [h1]; rfl
  rw [e]; exact ⟨h1, h2⟩
theorem rate_ex (b d : Int) (hb : b.natAbs < 18446744073709551616) (h0 : b ≠ 0) : floatBits .quo .f64 (mibOf b) (secsOf d) = some (rateOf b d) ∧ Ok (rateOf b d) := by
  obtain ⟨q, _, _, h3⟩ := secs_ex d
  obtain ⟨r, h1, h2⟩ := div_some (mib_ex b hb h0).2 h3
  have e : rateOf b d = r := by unfold rateOf; rw [h1]; rfl
  rw [e]; exact ⟨h1, h2⟩

set_option maxRecDepth 100000 in
theorem seconds_any (d : Int) (w : World) : Calls Yba.prog 8 #[.int .i64 d] w fun e w' => e = .returned (.float .f64 (secsOf d)) ∧ w' = w := by
  obtain ⟨q, h1, h2, _⟩ := secs_ex d
  have r1 := run_float_arith (P := Yba.prog) w .quo 25 .f64 _ _ _ h1
  have r2 := run_float_arith (P := Yba.prog) w .add 25 .f64 _ _ _ h2
  go_enter Yba.func8, Yba.ntmps8
  go_wp2
  go_ret
  exact ⟨rfl, rfl⟩

set_option maxRecDepth 100000 in
theorem mib_zero (sv : Value) (w : World) (hsv : ∃ ao n c, sv = .slice ao n c) : Calls Yba.prog 5 #[.agg #[.int .i64 0, sv]] w fun e w' => e = .returned (.float .f64 0) ∧ Below w.heap.size w w' := by
  obtain ⟨ao, n, c, rfl⟩ := hsv
  go_enter Yba.func5, Yba.ntmps5
  go_wp2
  go_ret
  exact ⟨rfl, (Below.refl _ w).alloc (Nat.le_refl _) _⟩

set_option maxRecDepth 100000 in
set_option maxHeartbeats 2000000 in
theorem mib_any (b : Int) (hb : b.natAbs < 18446744073709551616) (h0 : b ≠ 0) (ao : Option Addr) (n c : Nat) (med : Int) (w : World) (HM : ∀ W, Below w.heap.size w W → Calls Yba.prog 7 #[.agg #[.int .i64 b, .slice ao n c]] W fun e w' => e = .returned (.int .i64 med) ∧ Below W.heap.size W w') :
    Calls Yba.prog 5 #[.agg #[.int .i64 b, .slice ao n c]] w fun e w' => e = .returned (.float .f64 (rateOf b med)) ∧ Below w.heap.size w w' := by
  have r1 := fun W => run_float_arith (P := Yba.prog) W .quo 25 .f64 _ _ _ (mib_ex b hb h0).1
  have r2 := fun W => run_float_arith (P := Yba.prog) W .quo 25 .f64 _ _ _ (rate_ex b med hb h0).1
  have HH : Hid (∀ W, Below w.heap.size w W → Calls Yba.prog 7 #[.agg #[.int .i64 b, .slice ao n c]] W fun e w' => e = .returned (.int .i64 med) ∧ Below W.heap.size W w') := HM
  have hb0 : (b == 0) = false := by simp; exact h0
  clear HM
  go_enter Yba.func5, Yba.ntmps5
  go_wp2
  obtain ⟨W0, hW0, hbel, c0, c1⟩ : ∃ W0, w.alloc (.cells #[.int .i64 b, .slice ao n c] 27) = W0 ∧ Below w.heap.size w W0 ∧ W0.cell? ⟨w.heap.size, 0, none⟩ = some (.int .i64 b) ∧ W0.cell? ⟨w.heap.size, 1, none⟩ = some (.slice ao n c) := ⟨_, rfl, (Below.refl _ w).alloc (Nat.le_refl _) _, World.cell?_alloc_at _ _ _ _ rfl, World.cell?_alloc_at _ _ _ _ rfl⟩
  rw [hW0]
  have HB : Hid (Below w.heap.size w W0) := hbel
  have hlt : w.heap.size < W0.heap.size := World.block_lt_of_cell? (a := ⟨w.heap.size, 0, none⟩) _ c0
  clear hW0 hbel
  go_region_held3 (fun x => x.cell? ⟨w.heap.size, 0, none⟩ = some (.int .i64 b) ∧ x.cell? ⟨w.heap.size, 1, none⟩ = some (.slice ao n c)) (go_keep) ((first | (go_at_call 7; refine (HH.out W0.drew (below_drewN' HB.out 1)).mono ?_; rintro e w2 ⟨rfl, hb2⟩; have k0 := (hb2.cell (p := ⟨w.heap.size, 0, none⟩) hlt).trans c0; have k1 := (hb2.cell (p := ⟨w.heap.size, 1, none⟩) hlt).trans c1) | (go_at_call 8; refine (seconds_any med _).mono ?_; rintro e w3 ⟨rfl, rfl⟩)))
  refine absW (fun X => Below w.heap.size w X) (HB.out.trans ((below_drewN' (Below.refl w.heap.size W0) 1).trans (hb2.mono (by show w.heap.size ≤ W0.heap.size; omega)))) ?_
  clear HB hb2 k0 k1 c0 c1 hlt HH
  intro X hX
  have HB : Hid (Below w.heap.size w X) := hX
  clear hX
  go_wp2
  go_ret
  exact ⟨rfl, HB.out⟩
end Go.Proofs.Ybulkdegm

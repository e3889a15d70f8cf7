import Derived.Test.YbulkdeceW3
namespace Go.Proofs.Ybulkdece
open Go.RowKit Plain

/-! ### The model's three rows in memory -/
structure MW (w : World) (eb tb rb m : Nat) (held : Nat → Bool) (ts rs : Nat → Int) : Prop where
  hc : ∀ i, i < m → w.cell? ⟨eb, i, none⟩ = some (.bool (held i))
  tc : ∀ i, i < m → w.cell? ⟨tb, i, none⟩ = some (.int .u64 (ts i))
  rc : ∀ i, i < m → w.cell? ⟨rb, i, none⟩ = some (.int .i64 (rs i))
  hf : ∀ o, w.frozen? ⟨eb, o, none⟩ = false
  tf : ∀ o, w.frozen? ⟨tb, o, none⟩ = false
  rf : ∀ o, w.frozen? ⟨rb, o, none⟩ = false
  net : eb ≠ tb
  ner : eb ≠ rb
  ntr : tb ≠ rb
  le : eb < w.heap.size
  lt : tb < w.heap.size
  lr : rb < w.heap.size

theorem MW.only {S : List Nat} {w w' : World} {eb tb rb m : Nat} {held : Nat → Bool} {ts rs : Nat → Int} (hM : MW w eb tb rb m held ts rs) (hO : Only S w w') (h1 : eb ∉ S) (h2 : tb ∉ S) (h3 : rb ∉ S) : MW w' eb tb rb m held ts rs :=
  ⟨fun i hi => (hO.cell hM.le h1).trans (hM.hc i hi), fun i hi => (hO.cell hM.lt h2).trans (hM.tc i hi), fun i hi => (hO.cell hM.lr h3).trans (hM.rc i hi),
   fun o => (hO.frozen hM.le h1).trans (hM.hf o), fun o => (hO.frozen hM.lt h2).trans (hM.tf o), fun o => (hO.frozen hM.lr h3).trans (hM.rf o),
   hM.net, hM.ner, hM.ntr, Nat.lt_of_lt_of_le hM.le hO.size, Nat.lt_of_lt_of_le hM.lt hO.size, Nat.lt_of_lt_of_le hM.lr hO.size⟩

theorem cell_row {w : World} {b m : Nat} {g : Nat → Value} {i : Nat} {v : Value} {f : Nat → Value} (hc : ∀ i, i < m → w.cell? ⟨b, i, none⟩ = some (g i)) (he : ∀ j, f j = if j = i then v else g j) (j : Nat) (hj : j < m) :
    (w.setCell ⟨b, i, none⟩ v).cell? ⟨b, j, none⟩ = some (f j) := by
  rw [he]
  by_cases e : j = i
  · subst e; rw [World.cell?_setCell_same _ _ _ (hc j hj), if_pos rfl]
  · rw [World.cell?_setCell_other _ _ _ _ (ne_addr (.inr (Ne.symm e))), if_neg e]; exact hc j hj

theorem MW.setHeld {w : World} {eb tb rb m : Nat} {held : Nat → Bool} {ts rs : Nat → Int} (hM : MW w eb tb rb m held ts rs) (i : Nat) (v : Bool) : MW (w.setCell ⟨eb, i, none⟩ (.bool v)) eb tb rb m (upd held i v) ts rs := by
  refine ⟨cell_row hM.hc (fun j => by unfold upd; split <;> rfl), fun j hj => ?_, fun j hj => ?_, ?_, ?_, ?_, hM.net, hM.ner, hM.ntr, by simpa using hM.le, by simpa using hM.lt, by simpa using hM.lr⟩
  · rw [World.cell?_setCell_other _ _ _ _ (ne_addr (.inl hM.net))]; exact hM.tc j hj
  · rw [World.cell?_setCell_other _ _ _ _ (ne_addr (.inl hM.ner))]; exact hM.rc j hj
  · intro x; rw [World.frozen?_setCell]; exact hM.hf x
  · intro x; rw [World.frozen?_setCell]; exact hM.tf x
  · intro x; rw [World.frozen?_setCell]; exact hM.rf x
theorem MW.setT {w : World} {eb tb rb m : Nat} {held : Nat → Bool} {ts rs : Nat → Int} (hM : MW w eb tb rb m held ts rs) (i : Nat) (v : Int) : MW (w.setCell ⟨tb, i, none⟩ (.int .u64 v)) eb tb rb m held (upd ts i v) rs := by
  refine ⟨fun j hj => ?_, cell_row hM.tc (fun j => by unfold upd; split <;> rfl), fun j hj => ?_, ?_, ?_, ?_, hM.net, hM.ner, hM.ntr, by simpa using hM.le, by simpa using hM.lt, by simpa using hM.lr⟩
  · rw [World.cell?_setCell_other _ _ _ _ (ne_addr (.inl (Ne.symm hM.net)))]; exact hM.hc j hj
  · rw [World.cell?_setCell_other _ _ _ _ (ne_addr (.inl hM.ntr))]; exact hM.rc j hj
  · intro x; rw [World.frozen?_setCell]; exact hM.hf x
  · intro x; rw [World.frozen?_setCell]; exact hM.tf x
  · intro x; rw [World.frozen?_setCell]; exact hM.rf x
theorem MW.setR {w : World} {eb tb rb m : Nat} {held : Nat → Bool} {ts rs : Nat → Int} (hM : MW w eb tb rb m held ts rs) (i : Nat) (v : Int) : MW (w.setCell ⟨rb, i, none⟩ (.int .i64 v)) eb tb rb m held ts (upd rs i v) := by
  refine ⟨fun j hj => ?_, fun j hj => ?_, cell_row hM.rc (fun j => by unfold upd; split <;> rfl), ?_, ?_, ?_, hM.net, hM.ner, hM.ntr, by simpa using hM.le, by simpa using hM.lt, by simpa using hM.lr⟩
  · rw [World.cell?_setCell_other _ _ _ _ (ne_addr (.inl (Ne.symm hM.ner)))]; exact hM.hc j hj
  · rw [World.cell?_setCell_other _ _ _ _ (ne_addr (.inl (Ne.symm hM.ntr)))]; exact hM.tc j hj
  · intro x; rw [World.frozen?_setCell]; exact hM.hf x
  · intro x; rw [World.frozen?_setCell]; exact hM.tf x
  · intro x; rw [World.frozen?_setCell]; exact hM.rf x

theorem drewN_drewN (w : World) (a b : Nat) : (w.drewN a).drewN b = w.drewN (a + b) := by simp [World.drewN, Nat.add_assoc]

set_option maxRecDepth 100000 in
set_option maxHeartbeats 1000000 in
theorem min_any (eb tb rb m : Nat) (held : Nat → Bool) (ts rs : Nat → Int) (w : World) (hm : m ≤ 16) (hM : MW w eb tb rb m held ts rs) :
    Calls Yba.prog 9 #[.slice (some ⟨eb, 0, none⟩) m m, .slice (some ⟨tb, 0, none⟩) m m, .slice (some ⟨rb, 0, none⟩) m m] w fun e w' =>
      ∃ best : Int, e = .returned (.int .i64 best) ∧ Best held ts rs m best ∧ ∃ d, w' = w.drewN d := by
  have HM : Hid (MW w eb tb rb m held ts rs) := hM
  clear hM
  go_enter Yba.func9, Yba.ntmps9
  go_wp2
  go_loopw [7, 8] (fun bv iv wr => ∃ (k : Nat) (best : Int), k ≤ m ∧ iv = .int .i64 k ∧ bv = .int .i64 best ∧ Best held ts rs k best ∧ ∃ d, wr = w.drewN d)
    (fun _ iv _ => m - (intOf iv).toNat)
  case atStart => exact ⟨0, -1, Nat.zero_le _, rfl, rfl, Best.start _ _ _, 0, rfl⟩
  case round =>
    obtain ⟨k, best, hk, rfl, rfl, hB, d, hwr⟩ := hrel
    have HM' : Hid (MW wr eb tb rb m held ts rs) := by rw [hwr]; exact HM.out.only ((Only.refl [] w).drewN d) (by simp) (by simp) (by simp)
    have HW : Hid (wr = w.drewN d) := hwr
    clear hwr HM
    by_cases hlt : k < m
    · have c0 := HM'.out.hc k hlt
      cases hh : held k with
      | false =>
        rw [hh] at c0
        have HB : Hid (Best held ts rs (k + 1) best) := hB.skip hh
        clear hh hB
        go_wp2
        go_roundw
        case rel => exact ⟨k + 1, best, by omega, by go_num, rfl, HB.out, d, HW.out⟩
        case measure => simp [intOf]; omega
      | true =>
        rw [hh] at c0
        rcases hB with ⟨rfl, hn⟩ | ⟨b, rfl, hbk, hbh, hbl⟩
        · have HB : Hid (Best held ts rs (k + 1) k) := Best.first (best := -1) (.inl ⟨rfl, hn⟩) (by omega) hh
          clear hh hn
          go_wp2
          go_quiet (fail)
          go_wp2
          go_roundw
          case rel => exact ⟨k + 1, k, by omega, by go_num, rfl, HB.out, d + nq, by rw [HW.out, drewN_drewN]⟩
          case measure => simp [intOf]; omega
        · have hB' : Best held ts rs k b := .inr ⟨b, rfl, hbk, hbh, hbl⟩
          have c1 := HM'.out.tc k hlt
          have c2 := HM'.out.rc k hlt
          have c3 := HM'.out.tc b (by omega)
          have c4 := HM'.out.rc b (by omega)
          have hbm : b < m := by omega
          have hbf : decide ((b : Int) < 0) = false := decide_eq_false (by omega)
          by_cases hl : ltB ⟨ts k, rs k, k⟩ ⟨ts b, rs b, b⟩ = true
          · have HB : Hid (Best held ts rs (k + 1) k) := hB'.take hh (ltB_true.1 hl)
            clear hh hbl hB' hbh
            go_wp2
            go_quiet ((go_at_call 12; exact Calls.quiet_of_same (less_any _ _ _ _ _ _ _)))
            go_wp2
            go_roundw
            case rel => exact ⟨k + 1, k, by omega, by go_num, rfl, HB.out, d + nq, by rw [HW.out, drewN_drewN]⟩
            case measure => simp [intOf]; omega
          · have hl' : ltB ⟨ts k, rs k, k⟩ ⟨ts b, rs b, b⟩ = false := by simpa using hl
            have HB : Hid (Best held ts rs (k + 1) b) := hB'.leave (ltB_false.1 hl')
            clear hh hbl hB' hbh hl
            go_wp2
            go_quiet ((go_at_call 12; exact Calls.quiet_of_same (less_any _ _ _ _ _ _ _)))
            go_wp2
            go_roundw
            case rel => exact ⟨k + 1, b, by omega, by go_num, rfl, HB.out, d + nq, by rw [HW.out, drewN_drewN]⟩
            case measure => simp [intOf]; omega
    · have hkm : k = m := by omega
      subst hkm
      have HB : Hid (Best held ts rs k best) := hB
      clear hB
      go_wp2
      go_ret
      exact ⟨best, rfl, HB.out, d, HW.out⟩

theorem Yba.info42 : (Yba.prog.info? 42).map (fun i => (i.zero, i.size, i.bytes)) = some (some (.agg #[.int .u64 0, .int .i64 0, .int .i64 0]), 3, 24) := by kernel_rfl
theorem Yba.info3 : (Yba.prog.info? 3).map (fun i => (i.zero, i.size, i.bytes)) = some (some (.int .i64 0), 1, 8) := by kernel_rfl
theorem Yba.info28 : (Yba.prog.info? 28).map (fun i => (i.zero, i.size, i.bytes)) = some (some (.int .u64 0), 1, 8) := by kernel_rfl
theorem Yba.info4 : (Yba.prog.info? 4).map (fun i => (i.zero, i.size, i.bytes)) = some (some (.bool false), 1, 1) := by kernel_rfl
end Go.Proofs.Ybulkdece

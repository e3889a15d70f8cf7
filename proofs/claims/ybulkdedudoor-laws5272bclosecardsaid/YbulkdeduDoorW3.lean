import Derived.Test.YbulkdeduDoorW2
import Derived.ArgAppend
import Derived.Laws.OwnMore
namespace Go.Proofs.YbulkdeduDoor
open Go.RowKit

theorem Grew.of {w W : World} (h : Below w.heap.size w W) : Grew w W := ⟨fun b o hb => h.cell (p := ⟨b, o, none⟩) hb, fun b o hb => h.frozen (p := ⟨b, o, none⟩) hb, h⟩

theorem Ybad.info78 : (Ybad.prog.info? 78).map (fun i => (i.zero, i.size, i.bytes)) = some (some (.agg #[.int .u64 0, .int .u64 0]), 2, 16) := by kernel_rfl

/-- a slice of one gap, in a block of its own -/
structure OneGap (w : World) (B : Nat) (v : Value) (a u : Int) : Prop where
  ex : ∃ g c, v = .slice (some ⟨g, 0, none⟩) 1 c ∧ B ≤ g ∧ g < w.heap.size ∧ w.cell? ⟨g, 0, none⟩ = some (.int .u64 a) ∧ w.cell? ⟨g, 1, none⟩ = some (.int .u64 u)

theorem oneGap_of {w : World} {B : Nat} {v : Value} {a u : Int} (h : w.ownsRow B 78 2 v 1 [.int .u64 a, .int .u64 u]) : OneGap w B v a u := by
  obtain ⟨hl, h1 | ⟨g, c, cur, rfl, hb, hh, hn, hm, hs, ht⟩⟩ := h
  · exact absurd h1.2 (by decide)
  · have hown : w.ownsRow B 78 2 (.slice (some ⟨g, 0, none⟩) 1 c) 1 [.int .u64 a, .int .u64 u] := ⟨hl, .inr ⟨g, c, cur, rfl, hb, hh, hn, hm, hs, ht⟩⟩
    exact ⟨g, c, rfl, hb, (hown.lt _ rfl).2, hown.cellAt 0 (by decide), hown.cellAt 1 (by decide)⟩

set_option maxRecDepth 100000 in
theorem insert_nil (a u : Int) (vb : Nat) (w : World) (c0 : w.cell? ⟨vb, 0, none⟩ = some (.int .u64 a)) (c1 : w.cell? ⟨vb, 1, none⟩ = some (.int .u64 u)) :
    Calls Ybad.prog 21 #[.slice none 0 0, .int .i64 0, .slice (some ⟨vb, 0, none⟩) 1 1] w fun e w' => ∃ v, e = .returned v ∧ OneGap w' w.heap.size v a u ∧ Grew w w' := by
  obtain ⟨i0, hi, hz0, hz1, hz2⟩ := info_parts Ybad.info78
  have hcs : ∀ (j : Nat) x, [Value.int .u64 a, Value.int .u64 u][j]? = some x → w.cell? (({ block := vb, off := 0 } : Addr).add j) = some x := by
    intro j x hj
    match j, hj with
    | 0, hj => cases hj; exact c0
    | 1, hj => cases hj; exact c1
  go_enter Ybad.func21, Ybad.ntmps21
  go_wp2_with (at_builtin; go_must (refine wpList_append_grows _ rfl _ _ 72 rfl 78 i0 _ 2 16 Ybad.underlying72 hi hz0 hz1 hz2 rfl (by decide) none 0 0 [] rfl (fun _ => ⟨rfl, rfl⟩) rfl (fun b e => by cases e) ⟨vb, 0, none⟩ 1 1 [.int .u64 a, .int .u64 u] rfl rfl hcs (by simp [Value.oneCell']) (by decide) (by decide) (by decide) ?_); intro v' w2 hown hgrow)
  have H1 : Hid (OneGap w2 w.heap.size v' a u) := oneGap_of hown
  have H2 : Hid (Grew w w2) := Grew.of ((Below.refl _ w).grown hgrow (Nat.le_refl _) (fun k e => by cases e))
  clear hown hgrow
  go_wp2
  go_ret
  exact ⟨_, rfl, H1.out, H2.out⟩

set_option maxRecDepth 100000 in
theorem replace_nil (a u : Int) (vb : Nat) (w : World) (c0 : w.cell? ⟨vb, 0, none⟩ = some (.int .u64 a)) (c1 : w.cell? ⟨vb, 1, none⟩ = some (.int .u64 u)) :
    Calls Ybad.prog 19 #[.slice none 0 0, .int .i64 0, .int .i64 0, .slice (some ⟨vb, 0, none⟩) 1 1] w fun e w' => ∃ v, e = .returned v ∧ OneGap w' w.heap.size v a u ∧ Grew w w' := by
  have HI := insert_nil a u vb w c0 c1
  go_enter Ybad.func19, Ybad.ntmps19
  go_wp2_with fail
  refine HI.mono ?_
  rintro e w' ⟨v, rfl, h1, h2⟩
  have H1 : Hid (OneGap w' w.heap.size v a u) := h1
  have H2 : Hid (Grew w w') := h2
  clear HI h1 h2
  go_wp2
  go_ret
  exact ⟨_, rfl, H1.out, H2.out⟩

set_option maxRecDepth 100000 in
theorem delete_none (a : Option Addr) (n c : Nat) (w : World) (hn : n ≤ c) (hcap : c ≤ 1152921504606846976) (ha : a = none → n = 0 ∧ c = 0) :
    Calls Ybad.prog 20 #[.slice a n c, .int .i64 0, .int .i64 0] w fun e w' => e = .returned (.slice a n c) ∧ w' = w := by
  cases a with
  | none =>
    obtain ⟨rfl, rfl⟩ := ha rfl
    go_enter Ybad.func20, Ybad.ntmps20
    go_wp2
    go_ret
    exact ⟨rfl, rfl⟩
  | some ad =>
    clear ha
    go_enter Ybad.func20, Ybad.ntmps20
    go_wp2
    go_ret
    exact ⟨rfl, rfl⟩

@[go_sem] theorem Ybad.index73_0 (x y z : Value) (w : World) : (Instr.index 73 (.agg #[x, y, z]) (.int .i64 0)).run Ybad.prog w = .ok x w := by kernel_rfl
@[go_sem] theorem Ybad.index73_1 (x y z : Value) (w : World) : (Instr.index 73 (.agg #[x, y, z]) (.int .i64 1)).run Ybad.prog w = .ok y w := by kernel_rfl
@[go_sem] theorem Ybad.index73_2 (x y z : Value) (w : World) : (Instr.index 73 (.agg #[x, y, z]) (.int .i64 2)).run Ybad.prog w = .ok z w := by kernel_rfl

set_option maxRecDepth 100000 in
theorem quiet_any (bb : Nat) (a : Nat → Option Addr) (n c : Nat → Nat) (w : World) (h0 : w.cell? ⟨bb, 3, none⟩ = some (.slice (a 0) (n 0) (c 0))) (h1 : w.cell? ⟨bb, 4, none⟩ = some (.slice (a 1) (n 1) (c 1))) (h2 : w.cell? ⟨bb, 5, none⟩ = some (.slice (a 2) (n 2) (c 2))) :
    Calls Ybad.prog 13 #[.pointer (some ⟨bb, 0, none⟩)] w fun e w' => e = .returned (.bool (decide (n 0 = 0) && decide (n 1 = 0) && decide (n 2 = 0))) ∧ w' = w := by
  go_enter Ybad.func13, Ybad.ntmps13
  go_wp2
  go_loop [9] (fun iv => ∃ k : Nat, k ≤ 3 ∧ iv = .int .i64 k ∧ ∀ j, j < k → n j = 0) (fun iv => 3 - (intOf iv).toNat)
  case atStart => exact ⟨0, by decide, rfl, fun j hj => by omega⟩
  case round =>
    obtain ⟨k, hk, rfl, hz⟩ := hrel
    have HZ : Hid (∀ j, j < k → n j = 0) := hz
    clear hz
    by_cases h3 : k = 3
    · subst h3
      have E : Hid ((decide (n 0 = 0) && decide (n 1 = 0) && decide (n 2 = 0)) = true) := by show _ = _; simp [HZ.out 0 (by omega), HZ.out 1 (by omega), HZ.out 2 (by omega)]
      go_wp2
      go_ret
      exact ⟨by rw [E.out]; rfl, rfl⟩
    · by_cases hn : n k = 0
      · have HN : Hid (∀ j, j < k + 1 → n j = 0) := fun j hj => by
          by_cases e : j = k
          · rw [e]; exact hn
          · exact HZ.out j (by omega)
        obtain rfl | rfl | rfl : k = 0 ∨ k = 1 ∨ k = 2 := by omega
        · have hq : ¬ 0 < n 0 := by omega
          clear hn
          go_wp2
          go_round
          case rel => exact ⟨1, by omega, rfl, HN.out⟩
          case measure => simp [intOf]
        · have hq : ¬ 0 < n 1 := by omega
          clear hn
          go_wp2
          go_round
          case rel => exact ⟨2, by omega, rfl, HN.out⟩
          case measure => simp [intOf]
        · have hq : ¬ 0 < n 2 := by omega
          clear hn
          go_wp2
          go_round
          case rel => exact ⟨3, by omega, rfl, HN.out⟩
          case measure => simp [intOf]
      · have E : Hid ((decide (n 0 = 0) && decide (n 1 = 0) && decide (n 2 = 0)) = false) := by
          show _ = _
          obtain rfl | rfl | rfl : k = 0 ∨ k = 1 ∨ k = 2 := by omega
          all_goals simp [hn]
        have hp : 0 < n k := by omega
        obtain rfl | rfl | rfl : k = 0 ∨ k = 1 ∨ k = 2 := by omega
        all_goals
          clear hn
          go_wp2
          go_ret
          exact ⟨by rw [E.out]; rfl, rfl⟩
end Go.Proofs.YbulkdeduDoor

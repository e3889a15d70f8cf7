import Derived.Test.YbulkdegmRa
import Derived.Lib.SliceRun
namespace Go.Proofs.Ybulkdegm
open Go.RowKit

def wantOf (b med : Int) : Nat := if b = 0 then 0 else rateOf b med
theorem want_ok (b med : Int) (hb : b.natAbs < 18446744073709551616) : FloatKind.f64.format.order (wantOf b med) (wantOf b med) = some .eq := by
  show Ieee.double.order _ _ = _
  refine order_refl ?_
  unfold wantOf
  by_cases h : b = 0
  · rw [if_pos h]
    have h0 : Ieee.double.read 0 = .number false 0 (-1074) := by decide
    intro s t
    rw [h0]; simp
  · rw [if_neg h]; exact (rate_ex b med hb h).2

theorem mib_all (b : Int) (hb : b.natAbs < 18446744073709551616) (ao : Option Addr) (n c : Nat) (med : Int) (w : World) (HM : ∀ W, Below w.heap.size w W → Calls Yba.prog 7 #[.agg #[.int .i64 b, .slice ao n c]] W fun e w' => e = .returned (.int .i64 med) ∧ Below W.heap.size W w') :
    Calls Yba.prog 5 #[.agg #[.int .i64 b, .slice ao n c]] w fun e w' => e = .returned (.float .f64 (wantOf b med)) ∧ Below w.heap.size w w' := by
  unfold wantOf
  by_cases h : b = 0
  · subst h
    rw [if_pos rfl]; exact mib_zero _ w ⟨_, _, _, rfl⟩
  · rw [if_neg h]; exact mib_any b hb h ao n c med w HM

set_option maxRecDepth 100000 in
theorem model_all (b : Int) (hb : b.natAbs < 18446744073709551616) (ao : Option Addr) (n c : Nat) (med : Int) (w : World) (HM : Calls Yba.prog 9 #[.slice ao n c] w fun e w' => e = .returned (.int .i64 med) ∧ Below w.heap.size w w') :
    Calls Yba.prog 6 #[.int .i64 b, .slice ao n c] w fun e w' => e = .returned (.float .f64 (wantOf b med)) ∧ Below w.heap.size w w' := by
  by_cases h : b = 0
  · subst h
    have HW : Hid (wantOf 0 med = 0) := by show _ = _; rw [wantOf, if_pos rfl]
    clear HM
    go_enter Yba.func6, Yba.ntmps6
    go_wp2
    go_ret
    exact ⟨by rw [HW.out]; rfl, Below.refl _ _⟩
  · have HW : Hid (wantOf b med = rateOf b med) := by show _ = _; rw [wantOf, if_neg h]
    have r1 := fun W => run_float_arith (P := Yba.prog) W .quo 25 .f64 _ _ _ (mib_ex b hb h).1
    have r2 := fun W => run_float_arith (P := Yba.prog) W .quo 25 .f64 _ _ _ (rate_ex b med hb h).1
    have hb0 : (b == 0) = false := by simp; exact h
    go_enter Yba.func6, Yba.ntmps6
    go_wp2_with fail
    refine HM.mono ?_
    rintro e W ⟨rfl, hB⟩
    have HB : Hid (Below w.heap.size w W) := hB
    clear HM hB
    go_wp2_with fail
    refine (seconds_any med W).mono ?_
    rintro e W' ⟨rfl, rfl⟩
    go_wp2
    go_ret
    exact ⟨by rw [HW.out]; rfl, HB.out⟩

/-- the two medians are one -/
theorem meds (so : Option Addr) (n c : Nat) (s : Nat → Int) (hn : n ≤ 1024) (w : World) (hcs : ∀ j, j < n → ∃ tb off, so = some ⟨tb, off, none⟩ ∧ tb < w.heap.size ∧ w.cell? ⟨tb, off + j, none⟩ = some (.int .i64 (s j))) :
    ∃ med, (∀ b W, Below w.heap.size w W → Calls Yba.prog 7 #[.agg #[.int .i64 b, .slice so n c]] W fun e w' => e = .returned (.int .i64 med) ∧ Below W.heap.size W w') ∧ (∀ W, Below w.heap.size w W → Calls Yba.prog 9 #[.slice so n c] W fun e w' => e = .returned (.int .i64 med) ∧ Below W.heap.size W w') := by
  by_cases h0 : n = 0
  · subst h0
    exact ⟨0, fun b W _ => median_nil b so c W, fun W _ => (zmedian_nil so c W).mono fun e w' ⟨h1, h2⟩ => ⟨h1, by rw [h2]; exact Below.refl _ _⟩⟩
  · obtain ⟨tb, off, rfl, htb, _⟩ := hcs 0 (by omega)
    have hl : n = (rowL s n).length := by simp [rowL]
    have hne : rowL s n ≠ [] := fun e => by rw [e] at hl; exact h0 hl
    have hget : ∀ j, j < n → (rowL s n)[j]?.getD 0 = s j := fun j hj => by simp [rowL, hj]
    have hc : ∀ W, Below w.heap.size w W → ∀ j, j < n → W.cell? ⟨tb, off + j, none⟩ = some (.int .i64 ((rowL s n)[j]?.getD 0)) := fun W hW j hj => by
      obtain ⟨tb', off', e, htb', h⟩ := hcs j hj
      cases e
      rw [hW.cell (p := ⟨tb, off + j, none⟩) htb, h, hget j hj]
    refine ⟨medOf (srt (rowL s n)) n, fun b W hW => ?_, fun W hW => ?_⟩
    · exact median_any b tb off n c (rowL s n) hl hne (by omega) W (Nat.lt_of_lt_of_le htb hW.size) (fun j hj => hc W hW j (by omega))
    · exact zmedian_any tb off n c (rowL s n) hl hne hn W (Nat.lt_of_lt_of_le htb hW.size) (hc W hW)

theorem neq_nil (a : Option Addr) (n c : Nat) (w : World) : (binOp .neq 22 (.slice a n c) (.slice none 0 0)).run Yba.prog w = .ok (.bool (!a.isNone)) w := by
  simp only [binOp]
  simp [Op.equal, Op.maxDepth, Lib.run_equalIn_slice_nil w 9999 22 2 a n c 0 0 Yba.underlying22]

def TimesAt (w : World) (so : Option Addr) (n : Nat) (z : Nat → Int) : Prop := ∀ j, j < n → ∃ b off, so = some ⟨b, off, none⟩ ∧ b < w.heap.size ∧ w.cell? ⟨b, off + j, none⟩ = some (.int .i64 (z j))

/-- the first i laid -/
def fst (z : Nat → Int) (i j : Nat) : Int := if j < i then z j else 0
theorem Rw.lay {w W : World} {g n i : Nat} {z : Nat → Int} (h : Rw w W g n (fst z i)) (hi : i < n) : Rw w (W.setCell ⟨g, i, none⟩ (.int .i64 (z i))) g n (fst z (i + 1)) := by
  refine ⟨fun j hj => ?_, fun j hj => (World.frozen?_setCell _ _ _ _).trans (h.fr j hj), h.bel.setCell (p := ⟨g, i, none⟩) h.hg _, h.hg⟩
  by_cases e : j = i
  · subst e
    rw [World.cell?_setCell_same _ _ _ (h.cell j hj), fst, if_pos (by omega)]
  · rw [other _ (by omega), h.cell j hj, fst, fst]
    by_cases e2 : j < i
    · rw [if_pos e2, if_pos (by omega)]
    · rw [if_neg e2, if_neg (by omega)]
theorem Rw.first (w : World) (n : Nat) (z : Nat → Int) : Rw w (w.alloc (.cells (madeCells #[.int .i64 0] n) 24)) w.heap.size n (fst z 0) := by
  refine ⟨fun j hj => ?_, fun j _ => World.frozen?_alloc_at _ _ _ _ rfl, (Below.refl _ w).alloc (Nat.le_refl _) _, Nat.le_refl _⟩
  rw [World.cell?_alloc_at _ _ _ _ rfl, fst, if_neg (by omega)]
  unfold madeCells
  simp [hj, Nat.mod_one]

set_option maxRecDepth 100000 in
set_option maxHeartbeats 4000000 in
theorem law_any (b : Int) (hb : b.natAbs < 18446744073709551616) (so : Option Addr) (n c : Nat) (z : Nat → Int) (w : World) (hT : TimesAt w so n z) :
    Calls Yba.prog 3 #[.int .i64 b, .slice so n c] w fun e w' => e = .returned (.bool true) ∧ Below w.heap.size w w' := by
  have HT : Hid (TimesAt w so n z) := hT
  clear hT
  by_cases hbig : 1024 < n
  · go_enter Yba.func3, Yba.ntmps3
    go_wp2
    go_ret
    exact ⟨rfl, Below.refl _ _⟩
  · have hn : n ≤ 1024 := by omega
    cases so with
    | none =>
      have hn0 : n = 0 := by
        rcases Nat.eq_zero_or_pos n with h | h
        · exact h
        · obtain ⟨b', off, e, _⟩ := HT.out 0 h; cases e
      subst hn0
      obtain ⟨med, h7, h9⟩ := meds none 0 0 z (by omega) w (fun j hj => by omega)
      have c5 := mib_all b hb none 0 0 med w (fun W hW => h7 b W hW)
      have hord := want_ok b med hb
      have H9 : Hid (∀ W, Below w.heap.size w W → Calls Yba.prog 6 #[.int .i64 b, .slice none 0 0] W fun e w' => e = .returned (.float .f64 (wantOf b med)) ∧ Below W.heap.size W w') := fun W hW => model_all b hb none 0 0 med W (h9 W hW)
      have hnil := neq_nil none 0 c
      simp only [Option.isNone_none, Bool.not_true] at hnil
      clear h7 h9
      go_enter Yba.func3, Yba.ntmps3
      go_wp2_with fail
      refine c5.mono ?_
      rintro e W ⟨rfl, hW⟩
      have c6 := H9.out W hW
      have HB : Hid (Below w.heap.size w W) := hW
      clear hW c5 H9
      go_wp2_with fail
      refine c6.mono ?_
      rintro e W2 ⟨rfl, hW2⟩
      have HB2 : Hid (Below w.heap.size w W2) := HB.out.trans (hW2.mono HB.out.size)
      clear hW2 c6 HB
      go_wp2
      refine wp_loop_once ?_
      go_wp2
      go_ret
      exact ⟨rfl, HB2.out⟩
    | some ad =>
      have hnil := neq_nil (some ad) n c
      simp only [Option.isNone_some, Bool.not_false] at hnil
      have hmk := make_t w n hn
      go_enter Yba.func3, Yba.ntmps3
      go_wp2
      refine absW (fun X => Rw w X w.heap.size n (fst z 0)) (Rw.first w n z) ?_
      obtain ⟨g, hg⟩ : ∃ x, x = w.heap.size := ⟨_, rfl⟩
      have hgl : w.heap.size ≤ g := by omega
      rw [← hg]
      clear hmk hg
      intro X hX
      have HX : Hid (Rw w X g n (fst z 0)) := hX
      clear hX
      go_loopw [6] (fun iv wr => ∃ i : Nat, i ≤ n ∧ iv = .int .i64 i ∧ Rw w wr g n (fst z i)) (fun iv _ => n - (intOf iv).toNat)
      case atStart => exact ⟨0, by omega, rfl, HX.out⟩
      case round =>
        clear HX
        obtain ⟨i, hin, rfl, hX⟩ := hrel
        have HX : Hid (Rw w wr g n (fst z i)) := hX
        by_cases hlt : i < n
        · obtain ⟨tb, off, e, htb, hc⟩ := HT.out i hlt
          cases e
          have x1 := (hX.bel.cell (p := ⟨tb, off + i, none⟩) htb).trans hc
          have x2 := hX.cell i hlt
          have f2 := hX.fr i hlt
          have HN : Hid (Rw w (wr.setCell ⟨g, i, none⟩ (.int .i64 (z i))) g n (fst z (i + 1))) := hX.lay hlt
          have hlt1 : (i : Int) < n := by omega
          clear hX hc
          go_wp2
          go_roundw
          case rel => exact ⟨i + 1, by omega, by go_num, HN.out⟩
          case measure => simp [intOf]; omega
        · obtain rfl : i = n := by omega
          have hcell : ∀ j, j < i → wr.cell? ⟨g, j, none⟩ = some (.int .i64 (z j)) := fun j hj => by rw [hX.cell j hj, fst, if_pos hj]
          have HC : Hid (∀ j, j < i → wr.cell? ⟨g, j, none⟩ = some (.int .i64 (z j))) := hcell
          obtain ⟨med, h7, h9⟩ := meds (some ⟨g, 0, none⟩) i i z hn wr (fun j hj => ⟨g, 0, rfl, World.block_lt_of_cell? (a := ⟨g, j, none⟩) _ (hcell j hj), by rw [Nat.zero_add]; exact hcell j hj⟩)
          have c5 := mib_all b hb (some ⟨g, 0, none⟩) i i med wr (fun W hW => h7 b W hW)
          have hord := want_ok b med hb
          have H9 : Hid (∀ W, Below wr.heap.size wr W → Calls Yba.prog 6 #[.int .i64 b, .slice (some ⟨g, 0, none⟩) i i] W fun e w' => e = .returned (.float .f64 (wantOf b med)) ∧ Below W.heap.size W w') := fun W hW => model_all b hb (some ⟨g, 0, none⟩) i i med W (h9 W hW)
          have HB0 : Hid (Below w.heap.size w wr) := hX.bel
          clear h7 h9 hX hcell
          go_wp2_with fail
          refine c5.mono ?_
          rintro e W ⟨rfl, hW⟩
          have c6 := H9.out W hW
          have HB : Hid (Below wr.heap.size wr W) := hW
          clear hW c5 H9
          go_wp2_with fail
          refine c6.mono ?_
          rintro e W2 ⟨rfl, hW2⟩
          have HB2 : Hid (Below wr.heap.size wr W2) := HB.out.trans (hW2.mono HB.out.size)
          clear hW2 c6 HB
          go_wp2
          have HE : Hid ((∀ q, q < i → W2.cell? ⟨g, q, none⟩ = some (.int .i64 (z q))) ∧ Below w.heap.size w W2) := ⟨fun q hq => (HB2.out.cell (p := ⟨g, q, none⟩) (World.block_lt_of_cell? (a := ⟨g, q, none⟩) _ (HC.out q hq))).trans (HC.out q hq), HB0.out.trans (HB2.out.mono HB0.out.size)⟩
          clear HB2 HC HB0
          go_loopw [9] (fun jv X => ∃ j : Nat, j ≤ i ∧ jv = .int .i64 j ∧ (∀ q, q < i → X.cell? ⟨g, q, none⟩ = some (.int .i64 (z q))) ∧ Below w.heap.size w X) (fun jv _ => i - (intOf jv).toNat)
          case atStart => exact ⟨0, by omega, rfl, HE.out⟩
          case round =>
            clear HE
            obtain ⟨j, hj, rfl, hC, hB⟩ := hrel
            have HE : Hid ((∀ q, q < i → wr.cell? ⟨g, q, none⟩ = some (.int .i64 (z q))) ∧ Below w.heap.size w wr) := ⟨hC, hB⟩
            by_cases hlt2 : j < i
            · obtain ⟨tb, off, e, htb, hc⟩ := HT.out j hlt2
              cases e
              have x1 := (hB.cell (p := ⟨tb, off + j, none⟩) htb).trans hc
              have x2 := hC j hlt2
              have hlt3 : (j : Int) < i := by omega
              clear hC hB hc
              go_wp2
              go_quiet (fail)
              go_wp2
              go_roundw
              case rel => exact ⟨j + 1, by omega, by go_num, HE.out.1, below_drewN' HE.out.2 _⟩
              case measure => simp [intOf]; omega
            · obtain rfl : j = i := by omega
              clear hC hB
              go_wp2
              go_ret
              exact ⟨rfl, HE.out.2⟩
end Go.Proofs.Ybulkdegm

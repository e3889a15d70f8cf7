import Derived.Test.YbulkdeceW5
namespace Go.Proofs.Ybulkdece
open Go.RowKit Plain

/-- the script as it came in: each step's four cells -/
def OpsAt (w : World) (a : Option Addr) (len : Nat) (op ii t r : Nat → Int) : Prop :=
  ∀ j, j < len → ∃ b off, a = some ⟨b, off, none⟩ ∧ b < w.heap.size ∧ w.cell? ⟨b, off + j * 4, none⟩ = some (.int .u8 (op j)) ∧ w.cell? ⟨b, off + j * 4 + 1, none⟩ = some (.int .u8 (ii j)) ∧
    w.cell? ⟨b, off + j * 4 + 2, none⟩ = some (.int .u64 (t j)) ∧ w.cell? ⟨b, off + j * 4 + 3, none⟩ = some (.int .i64 (r j)) ∧ 0 ≤ op j ∧ op j ≤ 255 ∧ 0 ≤ ii j ∧ ii j ≤ 255

structure St (w0 W : World) (qb hb ab eb tb rb m n : Nat) (h : Nat → E) (A : Nat → Int) (held : Nat → Bool) (ts rs : Nat → Int) : Prop where
  q : QW W qb hb ab m n h A
  mw : MW W eb tb rb m held ts rs
  inv : Inv m n h A held ts rs
  below : Below w0.heap.size w0 W
  ge : w0.heap.size ≤ qb ∧ w0.heap.size ≤ hb ∧ w0.heap.size ≤ ab ∧ w0.heap.size ≤ eb ∧ w0.heap.size ≤ tb ∧ w0.heap.size ≤ rb
  dist : eb ∉ [qb, hb, ab] ∧ tb ∉ [qb, hb, ab] ∧ rb ∉ [qb, hb, ab]

theorem St.fresh {w0 W W' : World} {qb hb ab eb tb rb m n : Nat} {h : Nat → E} {A : Nat → Int} {held : Nat → Bool} {ts rs : Nat → Int} (hS : St w0 W qb hb ab eb tb rb m n h A held ts rs) (hO : Only [] W W') :
    St w0 W' qb hb ab eb tb rb m n h A held ts rs :=
  ⟨hS.q.only hO (by simp) (by simp) (by simp), hS.mw.only hO (by simp) (by simp) (by simp), hS.inv, hS.below.trans (hO.below hS.below.size (by simp)), hS.ge, hS.dist⟩

/-- the queue has turned, the model has not -/
theorem St.turn {w0 W W' : World} {qb hb ab eb tb rb m n : Nat} {h : Nat → E} {A : Nat → Int} {held : Nat → Bool} {ts rs : Nat → Int} (hS : St w0 W qb hb ab eb tb rb m n h A held ts rs) (hO : Only [qb, hb, ab] W W') : MW W' eb tb rb m held ts rs ∧ Below w0.heap.size w0 W' :=
  ⟨hS.mw.only hO hS.dist.1 hS.dist.2.1 hS.dist.2.2, hS.below.trans (hO.below hS.below.size (by have := hS.ge; simp; omega))⟩

theorem QW.other {w : World} {qb hb ab m n : Nat} {h : Nat → E} {A : Nat → Int} (hQ : QW w qb hb ab m n h A) {b o : Nat} (hb' : b ∉ [qb, hb, ab]) (v : Value) : QW (w.setCell ⟨b, o, none⟩ v) qb hb ab m n h A :=
  hQ.only (S := [b]) ((Only.refl [b] w).setCell (.inl (by simp)) v) (by simp at hb' ⊢; omega) (by simp at hb' ⊢; omega) (by simp at hb' ⊢; omega)

theorem St.setAll {w0 W' : World} {qb hb ab eb tb rb m n' : Nat} {h' : Nat → E} {A' : Nat → Int} {held : Nat → Bool} {ts rs : Nat → Int} {i : Nat} {t r : Int}
    (hg : w0.heap.size ≤ qb ∧ w0.heap.size ≤ hb ∧ w0.heap.size ≤ ab ∧ w0.heap.size ≤ eb ∧ w0.heap.size ≤ tb ∧ w0.heap.size ≤ rb)
    (hd : eb ∉ [qb, hb, ab] ∧ tb ∉ [qb, hb, ab] ∧ rb ∉ [qb, hb, ab])
    (hM : MW W' eb tb rb m held ts rs) (hB : Below w0.heap.size w0 W') (hQ : QW W' qb hb ab m n' h' A') (hI : Inv m n' h' A' (upd held i true) (upd ts i t) (upd rs i r)) :
    St w0 (((W'.setCell ⟨eb, i, none⟩ (.bool true)).setCell ⟨tb, i, none⟩ (.int .u64 t)).setCell ⟨rb, i, none⟩ (.int .i64 r)) qb hb ab eb tb rb m n' h' A' (upd held i true) (upd ts i t) (upd rs i r) :=
  ⟨((hQ.other hd.1 _).other hd.2.1 _).other hd.2.2 _, ((hM.setHeld i true).setT i t).setR i r, hI, ((hB.setCell (by simp; omega) _).setCell (by simp; omega) _).setCell (by simp; omega) _, hg, hd⟩
theorem St.setOff {w0 W' : World} {qb hb ab eb tb rb m n' : Nat} {h' : Nat → E} {A' : Nat → Int} {held : Nat → Bool} {ts rs : Nat → Int} {i : Nat}
    (hg : w0.heap.size ≤ qb ∧ w0.heap.size ≤ hb ∧ w0.heap.size ≤ ab ∧ w0.heap.size ≤ eb ∧ w0.heap.size ≤ tb ∧ w0.heap.size ≤ rb)
    (hd : eb ∉ [qb, hb, ab] ∧ tb ∉ [qb, hb, ab] ∧ rb ∉ [qb, hb, ab])
    (hM : MW W' eb tb rb m held ts rs) (hB : Below w0.heap.size w0 W') (hQ : QW W' qb hb ab m n' h' A') (hI : Inv m n' h' A' (upd held i false) ts rs) :
    St w0 (W'.setCell ⟨eb, i, none⟩ (.bool false)) qb hb ab eb tb rb m n' h' A' (upd held i false) ts rs :=
  ⟨hQ.other hd.1 _, hM.setHeld i false, hI, hB.setCell (by simp; omega) _, hg, hd⟩

theorem MW.of_blocks {w : World} {eb tb rb m : Nat} (h1 : w.heap[eb]? = some (.cells (M1 (.bool false) m) 4)) (h2 : w.heap[tb]? = some (.cells (M1 (.int .u64 0) m) 28)) (h3 : w.heap[rb]? = some (.cells (M1 (.int .i64 0) m) 3))
    (n1 : eb ≠ tb) (n2 : eb ≠ rb) (n3 : tb ≠ rb) : MW w eb tb rb m (fun _ => false) (fun _ => 0) (fun _ => 0) :=
  ⟨fun j hj => (cell_of_heap h1).trans (M1_get _ rfl m j hj), fun j hj => (cell_of_heap h2).trans (M1_get _ rfl m j hj), fun j hj => (cell_of_heap h3).trans (M1_get _ rfl m j hj),
   fun _ => frozen_of_heap h1, fun _ => frozen_of_heap h2, fun _ => frozen_of_heap h3, n1, n2, n3, lt_of_heap h1, lt_of_heap h2, lt_of_heap h3⟩

/-- the queue and the model as the laws make them -/
theorem St.start {w0 W1 : World} {qb hb ab m : Nat} (hQ : QW W1 qb hb ab m 0 (fun _ => ⟨0, 0, 0⟩) (fun _ => -1)) (hB : Below w0.heap.size w0 W1) (b1 : w0.heap.size ≤ qb) (b2 : w0.heap.size ≤ hb) (b3 : w0.heap.size ≤ ab) :
    St w0 (((W1.alloc (.cells (M1 (.bool false) m) 4)).alloc (.cells (M1 (.int .u64 0) m) 28)).alloc (.cells (M1 (.int .i64 0) m) 3)) qb hb ab W1.heap.size (W1.heap.size + 1) (W1.heap.size + 1 + 1) m 0 (fun _ => ⟨0, 0, 0⟩) (fun _ => -1) (fun _ => false) (fun _ => 0) (fun _ => 0) := by
  obtain ⟨g1, g2, g3⟩ := heap3 W1 (.cells (M1 (.bool false) m) 4) (.cells (M1 (.int .u64 0) m) 28) (.cells (M1 (.int .i64 0) m) 3)
  have l1 := hQ.lq
  have l2 := hQ.lh
  have l3 := hQ.la
  have hs := hB.size
  refine ⟨((hQ.alloc _).alloc _).alloc _, MW.of_blocks g1 g2 g3 (by omega) (by omega) (by omega), Inv.start _ _ _ (fun _ _ => rfl) _ _, ((hB.alloc (by omega) _).alloc (by simp; omega) _).alloc (by simp; omega) _, ⟨b1, b2, b3, by omega, by omega, by omega⟩, ?_, ?_, ?_⟩
  · simp; omega
  · simp; omega
  · simp; omega

set_option maxRecDepth 100000 in
set_option maxHeartbeats 1000000 in
theorem drain_any (n : Int) (a : Option Addr) (len cap : Nat) (op ii t r : Nat → Int) (w : World) (hn0 : 0 ≤ n) (hn1 : n ≤ 255) (hO : OpsAt w a len op ii t r) :
    Calls Yba.prog 4 #[.int .u8 n, .slice a len cap] w fun e w' => e = .returned (.bool true) ∧ Below w.heap.size w w' := by
  by_cases hl : (1024 : Int) < len
  · go_enter Yba.func4, Yba.ntmps4
    go_wp2
    go_ret
    exact ⟨rfl, Below.refl _ _⟩
  · obtain ⟨m, hmi⟩ : ∃ m : Nat, n % 16 + 1 = (m : Int) := ⟨(n % 16 + 1).toNat, by omega⟩
    have hm : m ≤ 16 := by omega
    have hm0 : 0 < m := by omega
    have k25 := make25 m hm
    have k26 := make26 m hm
    have k27 := make27 m hm
    have HO : Hid (OpsAt w a len op ii t r) := hO
    clear hO
    go_enter Yba.func4, Yba.ntmps4
    go_wp2_with fail
    refine (new_any m _ hm).mono ?_
    rintro e w1 ⟨qb, hb, ab, rfl, hQ, hB, b1, b2, b3⟩
    have HS : Hid _ := St.start hQ hB b1 b2 b3
    clear hQ hB b1 b2 b3
    go_wp2_with fail
    refine absW (fun W => St w W qb hb ab w1.heap.size (w1.heap.size + 1) (w1.heap.size + 1 + 1) m 0 (fun _ => ⟨0, 0, 0⟩) (fun _ => -1) (fun _ => false) (fun _ => 0) (fun _ => 0)) HS.out ?_
    clear HS k25 k26 k27
    generalize w1.heap.size + 1 + 1 = rb
    generalize w1.heap.size + 1 = tb
    generalize w1.heap.size = eb
    clear w1
    intro W0 hS0
    have HS0 : Hid (St w W0 qb hb ab eb tb rb m 0 (fun _ => ⟨0, 0, 0⟩) (fun _ => -1) (fun _ => false) (fun _ => 0) (fun _ => 0)) := hS0
    clear hS0
    go_loopw [34] (fun iv wr => ∃ (k n : Nat) (h : Nat → E) (A : Nat → Int) (held : Nat → Bool) (ts rs : Nat → Int), k ≤ len ∧ iv = .int .i64 k ∧ St w wr qb hb ab eb tb rb m n h A held ts rs)
      (fun iv _ => len - (intOf iv).toNat)
    case atStart => exact ⟨0, 0, _, _, _, _, _, Nat.zero_le _, rfl, HS0.out⟩
    case round =>
      clear HS0 W0
      obtain ⟨k, n', h, A, held, ts, rs, hk, rfl, hS⟩ := hrel
      have HS : Hid (St w wr qb hb ab eb tb rb m n' h A held ts rs) := hS
      by_cases hlt : k < len
      · obtain ⟨b, off, rfl, hbw, o0, o1, o2, o3, p0, p1, p2, p3⟩ := HO.out k hlt
        rw [← hS.below.cell (by exact hbw)] at o0 o1 o2 o3
        obtain ⟨i, hii⟩ : ∃ i : Nat, ii k % (m : Int) = (i : Int) := ⟨(ii k % (m : Int)).toNat, by have := Int.emod_nonneg (ii k) (show (m : Int) ≠ 0 by omega); omega⟩
        have him : i < m := by have := Int.emod_lt_of_pos (ii k) (show (0 : Int) < m by omega); omega
        have hbr : b < wr.heap.size := Nat.lt_of_lt_of_le hbw hS.below.size
        clear hS
        go_wp2_with fail
        have hS1 : St w (wr.alloc (.cells #[.int .u8 (op k), .int .u8 (ii k), .int .u64 (t k), .int .i64 (r k)] 30)) qb hb ab eb tb rb m n' h A held ts rs := HS.out.fresh ((Only.refl [] wr).alloc _)
        refine (set_any qb hb ab m n' i (t k) (r k) h A held ts rs _ hm him hS1.q hS1.inv).mono ?_
        rintro e w2 ⟨rfl, n2, h2, A2, hQ2, hI2, hO2⟩
        obtain ⟨hM2, hB2⟩ := hS1.turn hO2
        have hlw : wr.heap.size ∉ [qb, hb, ab] := by have h1 := HS.out.q.lq; have h2 := HS.out.q.lh; have h3 := HS.out.q.la; simp; omega
        have hlt2 : wr.heap.size < (wr.alloc (.cells #[.int .u8 (op k), .int .u8 (ii k), .int .u64 (t k), .int .i64 (r k)] 30)).heap.size := by simp
        have q2 : w2.cell? ⟨wr.heap.size, 2, none⟩ = some (.int .u64 (t k)) := (hO2.cell (p := ⟨wr.heap.size, 2, none⟩) hlt2 hlw).trans (by simp [go_sem])
        have q3 : w2.cell? ⟨wr.heap.size, 3, none⟩ = some (.int .i64 (r k)) := (hO2.cell (p := ⟨wr.heap.size, 3, none⟩) hlt2 hlw).trans (by simp [go_sem])
        have m1 := hM2.hc i him
        have m2 := hM2.tc i him
        have m3 := hM2.rc i him
        have f1 := hM2.hf
        have f2 := hM2.tf
        have f3 := hM2.rf
        have d1 := hM2.net
        have d2 := hM2.ner
        have d3 := hM2.ntr
        have e1 : eb ≠ wr.heap.size := by have := HS.out.mw.le; omega
        have e2 : tb ≠ wr.heap.size := by have := HS.out.mw.lt; omega
        have e3 : rb ≠ wr.heap.size := by have := HS.out.mw.lr; omega
        have HS2 : Hid (St w (((w2.setCell ⟨eb, i, none⟩ (.bool true)).setCell ⟨tb, i, none⟩ (.int .u64 (t k))).setCell ⟨rb, i, none⟩ (.int .i64 (r k))) qb hb ab eb tb rb m n2 h2 A2 (upd held i true) (upd ts i (t k)) (upd rs i (r k))) :=
          St.setAll HS.out.ge HS.out.dist hM2 hB2 hQ2 hI2
        clear hS1 hQ2 hI2 hO2 hM2 hB2 hlw hlt2 HS o0 o1 o2 o3
        go_wp2
        go_roundw
        case rel => exact ⟨k + 1, n2, h2, A2, _, _, _, by omega, by go_num, HS2.out⟩
        case measure => simp [intOf]; omega
      · clear hS
        have hnm := HS.out.inv.rep.1
        go_wp2
        go_loopw [13] (fun sv wr => ∃ (s n : Nat) (h : Nat → E) (A : Nat → Int) (held : Nat → Bool) (ts rs : Nat → Int), n + s ≤ m ∧ sv = .int .i64 s ∧ St w wr qb hb ab eb tb rb m n h A held ts rs)
          (fun sv _ => (m + 1) - (intOf sv).toNat)
        case atStart => exact ⟨0, n', h, A, held, ts, rs, by omega, rfl, HS.out⟩
        case round =>
          clear HS hnm n' h A held ts rs HO
          rename_i wr2
          obtain ⟨s, n', h, A, held, ts, rs, hs, rfl, hS⟩ := hrel
          have HS : Hid (St w wr qb hb ab eb tb rb m n' h A held ts rs) := hS
          clear hS
          go_wp2_with fail
          refine (min_any eb tb rb m held ts rs _ hm HS.out.mw).mono ?_
          rintro e w2 ⟨best, rfl, hbest, d, rfl⟩
          have HS2 : Hid (St w (wr.drewN d) qb hb ab eb tb rb m n' h A held ts rs) := HS.out.fresh ((Only.refl [] wr).drewN d)
          have hfirst := first_any qb hb ab m n' h A (wr.drewN d) HS.out.inv.rep.1 hm HS2.out.q
          by_cases h0 : n' = 0
          · have hb0 := HS.out.inv.none hbest h0
            subst hb0
            rw [if_pos h0] at hfirst
            clear hbest
            go_wp2_with fail
            refine hfirst.mono ?_
            rintro e w3 ⟨rfl, rfl⟩
            clear hfirst
            go_wp2
            go_ret
            exact ⟨rfl, HS2.out.below⟩
          · obtain ⟨b, rfl, hbm, hbh, hbs⟩ := HS.out.inv.some hbest (by omega)
            rw [if_neg h0, hbs] at hfirst
            clear hbest hbs
            go_wp2_with fail
            refine hfirst.mono ?_
            rintro e w3 ⟨rfl, rfl⟩
            clear hfirst
            go_wp2_with fail
            refine (remove_any qb hb ab m n' b h A held ts rs _ hm hbm HS2.out.q HS2.out.inv).mono ?_
            rintro e w3 ⟨rfl, n3, h3, A3, hQ3, hI3, hO3, hn3⟩
            obtain ⟨hM3, hB3⟩ := HS2.out.turn hO3
            have hn4 := hn3 hbh
            have HS3 : Hid (St w (w3.setCell ⟨eb, b, none⟩ (.bool false)) qb hb ab eb tb rb m n3 h3 A3 (upd held b false) ts rs) := St.setOff HS.out.ge HS.out.dist hM3 hB3 hQ3 hI3
            have m1 := hM3.hc b hbm
            have f1 := hM3.hf
            clear hQ3 hI3 hO3 hM3 hB3 hn3 HS HS2 hbh
            go_wp2
            go_roundw
            case rel => exact ⟨s + 1, n3, h3, A3, _, _, _, by omega, by go_num, HS3.out⟩
            case measure => simp [intOf]; omega
end Go.Proofs.Ybulkdece

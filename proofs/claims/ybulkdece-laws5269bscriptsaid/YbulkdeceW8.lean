import Derived.Test.YbulkdeceW7
namespace Go.Proofs.Ybulkdece
open Go.RowKit Plain

set_option maxRecDepth 100000 in
set_option maxHeartbeats 2000000 in
theorem script_any (n : Int) (a : Option Addr) (len cap : Nat) (op ii t r : Nat → Int) (w : World) (hn0 : 0 ≤ n) (hn1 : n ≤ 255) (hO : OpsAt w a len op ii t r) :
    Calls Yba.prog 3 #[.int .u8 n, .slice a len cap] w fun e w' => e = .returned (.bool true) ∧ Below w.heap.size w w' := by
  by_cases hl : (1024 : Int) < len
  · go_enter Yba.func3, Yba.ntmps3
    go_wp2
    go_ret
    exact ⟨rfl, Below.refl _ _⟩
  · obtain ⟨m, hmi⟩ : ∃ m : Nat, n % 16 + 1 = (m : Int) := ⟨(n % 16 + 1).toNat, by omega⟩
    have hm : m ≤ 16 := by omega
    have hm0 : 0 < m := by omega
    have k25 := make25 m hm
    have k26 := make26 m hm
    have k27 := make27 m hm
    have HO : Hid (OpsAt w a len op ii t r) := hO
    clear hO
    go_enter Yba.func3, Yba.ntmps3
    go_wp2_with fail
    refine (new_any m _ hm).mono ?_
    rintro e w1 ⟨qb, hb, ab, rfl, hQ, hB, b1, b2, b3⟩
    have HS : Hid _ := St.start hQ hB b1 b2 b3
    clear hQ hB b1 b2 b3
    go_wp2_with fail
    refine absW (fun W => St w W qb hb ab w1.heap.size (w1.heap.size + 1) (w1.heap.size + 1 + 1) m 0 (fun _ => ⟨0, 0, 0⟩) (fun _ => -1) (fun _ => false) (fun _ => 0) (fun _ => 0)) HS.out ?_
    clear HS k25 k26 k27
    generalize w1.heap.size + 1 + 1 = rb
    generalize w1.heap.size + 1 = tb
    generalize w1.heap.size = eb
    clear w1
    intro W0 hS0
    have HS0 : Hid (St w W0 qb hb ab eb tb rb m 0 (fun _ => ⟨0, 0, 0⟩) (fun _ => -1) (fun _ => false) (fun _ => 0) (fun _ => 0)) := hS0
    clear hS0
    go_loopw [30] (fun iv wr => ∃ (k n : Nat) (h : Nat → E) (A : Nat → Int) (held : Nat → Bool) (ts rs : Nat → Int), k ≤ len ∧ iv = .int .i64 k ∧ St w wr qb hb ab eb tb rb m n h A held ts rs)
      (fun iv _ => len - (intOf iv).toNat)
    case atStart => exact ⟨0, 0, _, _, _, _, _, Nat.zero_le _, rfl, HS0.out⟩
    case round =>
      clear HS0 W0
      obtain ⟨k, n', h, A, held, ts, rs, hk, rfl, hS⟩ := hrel
      have HS : Hid (St w wr qb hb ab eb tb rb m n' h A held ts rs) := hS
      by_cases hlt : k < len
      · obtain ⟨b, off, rfl, hbw, o0, o1, o2, o3, p0, p1, p2, p3⟩ := HO.out k hlt
        rw [← hS.below.cell (by exact hbw)] at o0 o1 o2 o3
        obtain ⟨i, hii⟩ : ∃ i : Nat, ii k % (m : Int) = (i : Int) := ⟨(ii k % (m : Int)).toNat, by have := Int.emod_nonneg (ii k) (show (m : Int) ≠ 0 by omega); omega⟩
        have him : i < m := by have := Int.emod_lt_of_pos (ii k) (show (0 : Int) < m by omega); omega
        have hbr : b < wr.heap.size := Nat.lt_of_lt_of_le hbw hS.below.size
        have hlw : wr.heap.size ∉ [qb, hb, ab] := by have h1 := HS.out.q.lq; have h2 := HS.out.q.lh; have h3 := HS.out.q.la; simp; omega
        have e1 : eb ≠ wr.heap.size := by have := HS.out.mw.le; omega
        have e2 : tb ≠ wr.heap.size := by have := HS.out.mw.lt; omega
        have e3 : rb ≠ wr.heap.size := by have := HS.out.mw.lr; omega
        clear hS
        by_cases hop : op k % 3 = 2
        · have hopb : (op k % 3 == 2) = true := by simpa using hop
          clear hop
          have HLW : Hid (wr.heap.size ∉ [qb, hb, ab]) := hlw
          clear hlw
          go_wp2_with fail
          have hS1 : St w (wr.alloc (.cells #[.int .u8 (op k), .int .u8 (ii k), .int .u64 (t k), .int .i64 (r k)] 30)) qb hb ab eb tb rb m n' h A held ts rs := HS.out.fresh ((Only.refl [] wr).alloc _)
          refine (remove_any qb hb ab m n' i h A held ts rs _ hm him hS1.q hS1.inv).mono ?_
          rintro e w2 ⟨rfl, n2, h2, A2, hQ2, hI2, hO2, _⟩
          obtain ⟨hM2, hB2⟩ := hS1.turn hO2
          have m1 := hM2.hc i him
          have f1 := hM2.hf
          have HS2 : Hid (St w (w2.setCell ⟨eb, i, none⟩ (.bool false)) qb hb ab eb tb rb m n2 h2 A2 (upd held i false) ts rs) := St.setOff HS.out.ge HS.out.dist hM2 hB2 hQ2 hI2
          clear hS1 hQ2 hI2 hO2 hM2 hB2 HLW HS o0 o1 o2 o3
          go_wp2_with fail
          refine (check_any qb hb ab eb tb rb m n2 h2 A2 (upd held i false) ts rs _ hm HS2.out.q HS2.out.mw HS2.out.inv).mono ?_
          rintro e w3 ⟨rfl, hO3⟩
          have HS3 : Hid (St w w3 qb hb ab eb tb rb m n2 h2 A2 (upd held i false) ts rs) := HS2.out.fresh hO3
          clear hO3 HS2 m1 f1
          go_wp2
          go_roundw
          case rel => exact ⟨k + 1, n2, h2, A2, _, _, _, by omega, by go_num, HS3.out⟩
          case measure => simp [intOf]; omega
        · have hopb : (op k % 3 == 2) = false := by simpa using hop
          clear hop
          have HLW : Hid (wr.heap.size ∉ [qb, hb, ab]) := hlw
          clear hlw
          go_wp2_with fail
          have hS1 : St w (wr.alloc (.cells #[.int .u8 (op k), .int .u8 (ii k), .int .u64 (t k), .int .i64 (r k)] 30)) qb hb ab eb tb rb m n' h A held ts rs := HS.out.fresh ((Only.refl [] wr).alloc _)
          refine (set_any qb hb ab m n' i (t k) (r k) h A held ts rs _ hm him hS1.q hS1.inv).mono ?_
          rintro e w2 ⟨rfl, n2, h2, A2, hQ2, hI2, hO2⟩
          obtain ⟨hM2, hB2⟩ := hS1.turn hO2
          have hlt2 : wr.heap.size < (wr.alloc (.cells #[.int .u8 (op k), .int .u8 (ii k), .int .u64 (t k), .int .i64 (r k)] 30)).heap.size := by simp
          have q2 : w2.cell? ⟨wr.heap.size, 2, none⟩ = some (.int .u64 (t k)) := (hO2.cell (p := ⟨wr.heap.size, 2, none⟩) hlt2 HLW.out).trans (by simp [go_sem])
          have q3 : w2.cell? ⟨wr.heap.size, 3, none⟩ = some (.int .i64 (r k)) := (hO2.cell (p := ⟨wr.heap.size, 3, none⟩) hlt2 HLW.out).trans (by simp [go_sem])
          have m1 := hM2.hc i him
          have m2 := hM2.tc i him
          have m3 := hM2.rc i him
          have f1 := hM2.hf
          have f2 := hM2.tf
          have f3 := hM2.rf
          have d1 := hM2.net
          have d2 := hM2.ner
          have d3 := hM2.ntr
          have HS2 : Hid (St w (((w2.setCell ⟨eb, i, none⟩ (.bool true)).setCell ⟨tb, i, none⟩ (.int .u64 (t k))).setCell ⟨rb, i, none⟩ (.int .i64 (r k))) qb hb ab eb tb rb m n2 h2 A2 (upd held i true) (upd ts i (t k)) (upd rs i (r k))) :=
            St.setAll HS.out.ge HS.out.dist hM2 hB2 hQ2 hI2
          clear hS1 hQ2 hI2 hO2 hM2 hB2 HLW hlt2 HS o0 o1 o2 o3
          go_wp2_with fail
          refine (check_any qb hb ab eb tb rb m n2 h2 A2 (upd held i true) (upd ts i (t k)) (upd rs i (r k)) _ hm HS2.out.q HS2.out.mw HS2.out.inv).mono ?_
          rintro e w3 ⟨rfl, hO3⟩
          have HS3 : Hid (St w w3 qb hb ab eb tb rb m n2 h2 A2 (upd held i true) (upd ts i (t k)) (upd rs i (r k))) := HS2.out.fresh hO3
          clear hO3 HS2 m1 m2 m3 f1 f2 f3 q2 q3
          go_wp2
          go_roundw
          case rel => exact ⟨k + 1, n2, h2, A2, _, _, _, by omega, by go_num, HS3.out⟩
          case measure => simp [intOf]; omega
      · clear hS
        go_wp2
        go_ret
        exact ⟨rfl, HS.out.below⟩
end Go.Proofs.Ybulkdece

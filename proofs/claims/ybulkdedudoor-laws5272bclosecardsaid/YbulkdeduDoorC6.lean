import Derived.Test.YbulkdeduDoorC8
import Derived.Test.YbulkdeduDoorC4
namespace Go.Proofs.YbulkdeduDoor
open Go.RowKit Go.ChangeMaps Go.MapKept

theorem lit2 (W : World) (A U : Value) (ty : TypeId) : ∀ (j : Nat) (u : Value), [A, U][j]? = some u → (W.alloc (.cells #[A, U] ty)).cell? ((⟨W.heap.size, 0, none⟩ : Addr).add j) = some u := by
  intro j u hj
  rw [Addr.add_lit, Nat.zero_add, World.cell?_alloc_at _ _ _ _ rfl]
  match j, hj with
  | 0, hj => exact hj
  | 1, hj => exact hj
theorem own_grew {M N : World} {B : Nat} {v : Value} {m : Nat} {xs : List Value} (h : M.ownsRow B 78 2 v m xs) (hg : Grew M N) : N.ownsRow B 78 2 v m xs := by
  obtain ⟨h1, h2 | ⟨g, cap, cur, rfl, q1, q2, q3⟩⟩ := h
  · exact ⟨h1, .inl h2⟩
  · exact ⟨h1, .inr ⟨g, cap, cur, rfl, q1, (hg.bel.block g (Array.getElem?_eq_some_iff.1 q2).1).trans q2, q3⟩⟩

set_option maxRecDepth 100000 in
set_option maxHeartbeats 8000000 in
theorem close_any (sel : Nat) (hsel : sel < 256) (after : Bool) (seq gb : Int) (l f : Nat → Int) (so : Option Addr) (sl sc : Nat) (z : Nat → Int) (w : World) (hl0 : ∀ i, i < 3 → 0 ≤ l i) (hS : StepsAt w so sl z)
    (hk1 : w.cell? ⟨0, 1, none⟩ = some (.int .u8 0)) (hk2 : w.cell? ⟨0, 2, none⟩ = some (.int .u8 1)) (hk10 : w.cell? ⟨0, 10, none⟩ = some (.int .u8 2)) :
    Calls Ybad.prog 4 #[.int .u8 sel, .bool after, .int .u64 seq, .agg #[.int .u64 (l 0), .int .u64 (l 1), .int .u64 (l 2)], .agg #[.int .u64 (f 0), .int .u64 (f 1), .int .u64 (f 2)], .slice so sl sc, .int .i64 gb] w fun e w' => e = .returned (.bool true) ∧ Below w.heap.size w w' := by
  obtain ⟨k, hk, hkk⟩ : ∃ k : Nat, k < 3 ∧ (sel : Int) % 3 = k := ⟨sel % 3, by omega, by omega⟩
  have hkb : ∃ kb : Nat, kb = (if k = 0 then 1 else if k = 1 then 2 else 10) ∧ kb < 256 ∧ w.cell? ⟨0, kb, none⟩ = some (.int .u8 k) := by
    obtain rfl | rfl | rfl : k = 0 ∨ k = 1 ∨ k = 2 := by omega
    · exact ⟨1, rfl, by decide, hk1⟩
    · exact ⟨2, rfl, by decide, hk2⟩
    · exact ⟨10, rfl, by decide, hk10⟩
  have HKB : Hid (∃ kb : Nat, kb = (if k = 0 then 1 else if k = 1 then 2 else 10) ∧ kb < 256 ∧ w.cell? ⟨0, kb, none⟩ = some (.int .u8 k)) := hkb
  have HL0 : Hid (∀ i, i < 3 → 0 ≤ l i) := hl0
  have HS : Hid (StepsAt w so sl z) := hS
  clear hk1 hk2 hk10 hkb hl0 hS
  obtain ⟨i0, hi, hz0, hz1, hz2⟩ := info_parts Ybad.info78
  by_cases hlen : 1024 < sl
  · go_enter Ybad.func4, Ybad.ntmps4
    go_wp2
    go_ret
    exact ⟨rfl, ((Below.refl _ w).alloc (Nat.le_refl _) _).alloc (by simp) _⟩
  · go_enter Ybad.func4, Ybad.ntmps4
    go_wp2
    rw [hkk, show decide (1024 < (sl : Int)) = false from decide_eq_false (by omega)]
    go_loopw [16, 17, 18] (fun gv cv iv wr => ∃ (m : Nat) (F : Nat → Int) (x : Int), 2 * m ≤ sl ∧ cv = .int .u64 x ∧ iv = .int .i64 (2 * m : Nat) ∧ Ap w wr gv m F l f) (fun _ _ iv _ => sl - (intOf iv).toNat)
    case atStart => exact ⟨0, fun _ => 0, 0, by omega, rfl, rfl, Ap.init w l f 23 23 _⟩
    case round =>
      obtain ⟨m, F, x, hm, rfl, rfl, hA⟩ := hrel
      have HA : Hid (Ap w wr u16 m F l f) := hA
      clear hA
      by_cases hgo : 2 * m + 1 < sl
      · obtain ⟨b, off, rfl, hbw, c0⟩ := HS.out (2 * m) (by omega)
        obtain ⟨b', off', hbb, _, c1⟩ := HS.out (2 * m + 1) hgo
        obtain ⟨rfl, rfl⟩ : b = b' ∧ off = off' := by cases hbb; exact ⟨rfl, rfl⟩
        have d0 := (HA.out.bel.cell (p := ⟨b, off + 2 * m, none⟩) hbw).trans c0
        have d1 := (HA.out.bel.cell (p := ⟨b, off + (2 * m + 1), none⟩) hbw).trans c1
        clear c0 c1 hbb
        have hgo1 : ((2 * m : Nat) : Int) + 1 < sl := by omega
        have HOWN : Hid (∀ a u, (wr.alloc (.cells #[a, u] 78)).ownsRow (w.heap.size + 2) 78 2 u16 m (nums (2 * m) F)) := fun a u => own_grew HA.out.own (Grew.alloc _ _)
        have HBS : Hid (∀ a u, w.heap.size + 2 ≤ (wr.alloc (.cells #[a, u] 78)).heap.size) := fun a u => by rw [World.size_alloc]; have := HA.out.sz; omega
        go_wp2_with (at_builtin; go_must (refine wpList_append_own _ rfl _ _ 72 rfl (w.heap.size + 2) 78 i0 _ 2 16 Ybad.underlying72 hi hz0 hz1 hz2 rfl (by decide) u16 m _ rfl (HOWN.out _ _) ⟨wr.heap.size, 0, none⟩ 1 1 [_, _] rfl rfl (lit2 wr _ _ 78) (by simp [Value.oneCell']) (by simp only [maxLen]; omega) (by omega) (HBS.out _ _) ?_); intro v' w2 hown hgrow _)
        have HN : Hid (∃ F', Ap w w2 v' (m + 1) F' l f) := HA.out.step (Grew.alloc _ _) hown hgrow
        clear hown hgrow
        go_wp2
        go_roundw
        case rel => obtain ⟨F', h⟩ := HN.out; exact ⟨m + 1, F', _, by omega, rfl, by go_num, h⟩
        case measure => simp [intOf]; omega
      · obtain ⟨ao, cp, g, rfl, hG, hg1⟩ := HA.out.gaps
        have hm5 : m ≤ 512 := by omega
        have hmk := make_gaps wr m hm5
        obtain ⟨hGa, hGG, hGs, hGf⟩ := Ga.of HA.out hG hg1 (madeCells #[.int .u64 0, .int .u64 0] (m * 2)) (size_madeCells _ _) 78
        have hcp := fun ty => copy_gaps _ ty wr.heap.size g ao m cp F hGG hGs hGf
        obtain ⟨mB, hmB⟩ : ∃ x, x = wr.heap.size := ⟨_, rfl⟩
        obtain ⟨W1, hW1⟩ : ∃ W1, W1 = (wr.alloc (.cells (madeCells #[.int .u64 0, .int .u64 0] (m * 2)) 78)).setCells wr.heap.size 0 (nums (2 * m) F) := ⟨_, rfl⟩
        rw [← hW1] at hGa
        simp only [← hW1] at hcp
        rw [← hmB] at hGa hcp hmk
        have HGA : Hid (Ga w W1 g mB ao m cp F l f) := hGa
        have f0 := hGa.flo 0 (by decide)
        have f1 := hGa.flo 1 (by decide)
        have f2 := hGa.flo 2 (by decide)
        have l0 := hGa.last 0 (by decide)
        have l1 := hGa.last 1 (by decide)
        have l2 := hGa.last 2 (by decide)
        simp only [Nat.zero_add] at f0 f1 f2 l0 l1 l2
        have nn1 : ¬ w.heap.size = W1.heap.size := by have := hGa.m1; omega
        have nn2 : ¬ W1.heap.size = w.heap.size := by omega
        have nn3 : w.heap.size < W1.heap.size := by have := hGa.m1; omega
        have hj1 : (0 : Int) ≤ (k : Int) := by omega
        have hj2 : (k : Int) < 3 := by omega
        have hng : ¬ ((2 * m : Nat) : Int) + 1 < sl := by omega
        have he76 := e76_3 f hk
        clear hGa hGG hGs hGf hG hg1 hW1 hmB HA
        go_wp2_with fail
        obtain ⟨N, hN, hGb⟩ : ∃ N, W1.alloc (.cells (([.int .u64 (f 0), .int .u64 (f 1), .int .u64 (f 2), .slice none 0 0, .slice none 0 0, .slice none 0 0, .int .u64 0, .int .u64 0, .int .u64 0, .int .u64 0, .int .u64 0, .int .u64 0, .int .u64 0, .int .u64 0, .int .u64 0] : List Value).set (3 + k) (.slice ao m cp)).toArray 76) = N ∧ Gb w N g mB W1.heap.size k ao m cp F l f := ⟨_, rfl, Gb.of HGA.out hk 76⟩
        rw [hN]
        obtain ⟨bb, hbb⟩ : ∃ x, x = W1.heap.size := ⟨_, rfl⟩
        rw [← hbb] at hGb ⊢
        refine (engine_any (l 0) (l 1) (l 2) N).mono ?_
        rintro e X ⟨rfl, hM⟩
        obtain ⟨n, hn⟩ : ∃ x, x = N.heap.size := ⟨_, rfl⟩
        rw [← hn]
        have HGC : Hid (Gc w ((setBlock ((X.setCell ⟨n + 7, 64, none⟩ (.int .i64 gb)).alloc (.map #[] 0)) X.heap.size (.map #[ent (.pointer (some ⟨bb, 0, none⟩))] 1)).setCell ⟨n + 7, 63, none⟩ (.map (some X.heap.size))) n g mB bb k ao m cp F l f gb) := by rw [hn]; exact Gc.of hGb hM
        have b63 := hM.bounds
        have b64 := hM.gap
        have bfr := hM.fr
        have bsz := hM.sz
        rw [← hn] at b63 b64 bfr bsz
        have f64 := bfr 64
        have f63 := bfr 63
        have hA : ((X.setCell ⟨n + 7, 64, none⟩ (.int .i64 gb)).alloc (.map #[] 0)).heap[X.heap.size]? = some (.map #[] 0) := by
          have := heap_alloc_new (X.setCell ⟨n + 7, 64, none⟩ (.int .i64 gb)) (.map #[] 0)
          rwa [World.size_setCell] at this
        have c63 : (setBlock ((X.setCell ⟨n + 7, 64, none⟩ (.int .i64 gb)).alloc (.map #[] 0)) X.heap.size (.map #[ent (.pointer (some ⟨bb, 0, none⟩))] 1)).cell? ⟨n + 7, 63, none⟩ = some (.map none) := by
          rw [setBlock_cell hA, World.cell?_alloc_past _ _ _ (by rw [World.size_setCell]; show n + 7 < _; omega), other _ (by omega)]; exact b63
        have g63 : (setBlock ((X.setCell ⟨n + 7, 64, none⟩ (.int .i64 gb)).alloc (.map #[] 0)) X.heap.size (.map #[ent (.pointer (some ⟨bb, 0, none⟩))] 1)).frozen? ⟨n + 7, 63, none⟩ = false := by
          rw [setBlock_frozen hA, World.frozen?_alloc_past _ _ _ (by rw [World.size_setCell]; show n + 7 < _; omega), World.frozen?_setCell]; exact f63
        clear hM hGb bfr hN hn hbb HGA f0 f1 f2 l0 l1 l2 nn1 nn2 nn3 hmk hcp he76 b63 f63 bsz
        go_wp2_with (refine wpList_ins0 rfl _ _ _ rfl X.heap.size (.pointer (some ⟨bb, 0, none⟩)) rfl rfl rfl hA ?_)
        obtain ⟨kb, hkb, h256, hcell⟩ := HKB.out
        have HK2 : Hid (kb < 256) := h256
        have HK3 : Hid (w.cell? ⟨0, kb, none⟩ = some (.int .u8 k)) := hcell
        refine (kindbyte_kb2 k kb hk hkb _).mono ?_
        rintro e w' ⟨rfl, rfl⟩
        refine absW (fun Z => Gc w Z n g mB bb k ao m cp F l f gb) HGC.out ?_
        clear HGC hA c63 g63 b64 f64 hkb h256 hcell HKB
        intro Z hZ
        have HZ : Hid (Gc w Z n g mB bb k ao m cp F l f gb) := hZ
        clear hZ
        have hb42 := Ybad.build42b
        go_wp2_with fail
        have hga := Grew.alloc Z (.cells (E42b kb seq after) 42)
        have h0 : 0 < w.heap.size := World.block_lt_of_cell? (a := ⟨0, kb, none⟩) _ HK3.out
        refine (take_close w.heap.size n Z.heap.size kb k g bb (n + 8) hk seq gb l f F ao m cp hm5 after _ (HZ.out.env after HK2.out HK3.out h0 42) (HZ.out.grew hga).eng (by simp) HL0.out (HZ.out.grew hga).bd).mono ?_
        rintro e W2 ⟨rfl, c, hT⟩
        refine absW (fun V => Gd w V n g mB bb k ao m cp c F l f gb seq) (Gd.of (HZ.out.grew hga) hT) ?_
        clear hga hT HZ hb42 h0 HK2 HK3 HL0
        intro V hV
        have HV : Hid (Gd w V n g mB bb k ao m cp c F l f gb seq) := hV
        have x0 := hV.last k hk
        rw [Nat.zero_add] at x0
        have f0 := hV.flo 0 (by decide)
        have f1 := hV.flo 1 (by decide)
        have f2 := hV.flo 2 (by decide)
        simp only [Nat.zero_add] at f0 f1 f2
        clear hV
        clear hi hz0 hz1 hz2 HS
        have HE0 : (l k < seq ∧ Hid (mx (l k) seq = seq)) ∨ (¬ l k < seq ∧ Hid (mx (l k) seq = l k)) := by
          by_cases h : l k < seq
          · exact .inl ⟨h, if_pos h⟩
          · exact .inr ⟨h, if_neg h⟩
        rcases HE0 with ⟨hsl, HE⟩ | ⟨hsl, HE⟩
        all_goals
          go_wp2
          refine absW (fun Y => Ge w Y n g mB bb k ao m cp c F l f gb seq V.heap.size (wfi F f k 0)) (Ge.init0 HV.out 23) ?_
          obtain ⟨fb, hfb⟩ : ∃ x, x = V.heap.size := ⟨_, rfl⟩
          rw [← hfb]
          clear hfb HV x0 f0 f1 f2
          intro Y hY
          have HY : Hid (Ge w Y n g mB bb k ao m cp c F l f gb seq fb (wfi F f k 0)) := hY
          clear hY
          go_loopw [26] (fun nv wr => ∃ i : Nat, i ≤ m ∧ nv = .int .i64 i ∧ (∀ q, q < i → F (2 * q) ≤ mx (l k) seq) ∧ Ge w wr n g mB bb k ao m cp c F l f gb seq fb (wfi F f k i)) (fun nv _ => m - (intOf nv).toNat)
          case atStart => exact ⟨0, by omega, rfl, fun q hq => by omega, HY.out⟩
          case round =>
            clear HY hsl
            obtain ⟨i, him0, rfl, hall, hY⟩ := hrel
            have HY : Hid (Ge w wr n g mB bb k ao m cp c F l f gb seq fb (wfi F f k i)) := hY
            have HALL : Hid (∀ q, q < i → F (2 * q) ≤ mx (l k) seq) := hall
            clear hall
            by_cases hgo : i < m ∧ F (2 * i) ≤ mx (l k) seq
            · obtain ⟨him, hAL⟩ := hgo
              have HN : Hid (∀ q, q < i + 1 → F (2 * q) ≤ mx (l k) seq) := fun q hq => by
                by_cases e : q = i
                · rw [e]; exact hAL
                · exact HALL.out q (by omega)
              have x1 : wr.cell? ⟨mB, i * 2, none⟩ = some (.int .u64 (F (2 * i))) := by rw [Nat.mul_comm]; exact hY.gd.mine (2 * i) (by omega)
              have x2 : wr.cell? ⟨mB, i * 2 + 1, none⟩ = some (.int .u64 (F (2 * i + 1))) := by rw [Nat.mul_comm]; exact hY.gd.mine (2 * i + 1) (by omega)
              have x3 := hY.wf k hk
              rw [Nat.zero_add, wfi, if_pos rfl] at x3
              have f3 := hY.fr k
              obtain ⟨A, hA⟩ : ∃ x, x = F (2 * i) := ⟨_, rfl⟩
              obtain ⟨U, hU⟩ : ∃ x, x = F (2 * i + 1) := ⟨_, rfl⟩
              obtain ⟨fc, hfc⟩ : ∃ x, x = flC F (f k) i := ⟨_, rfl⟩
              have HU : Hid (U = F (2 * i + 1)) := hU
              have HFC : Hid (fc = flC F (f k) i) := hfc
              rw [← hA] at x1 hAL
              rw [HE.out] at hAL
              rw [← hU] at x2
              rw [← hfc] at x3
              have hcm1 : (i : Int) < (m : Int) := by omega
              have HUP : Hid (fc < U → ∀ d, Ge w ((wr.drewN d).setCell ⟨fb, k, none⟩ (.int .u64 U)) n g mB bb k ao m cp c F l f gb seq fb (wfi F f k (i + 1))) := fun h d => by
                have h' : flC F (f k) i < F (2 * i + 1) := by rw [← hU, ← hfc]; exact h
                rw [hU]; exact (hY.drewN d).up h'
              have HST : Hid (¬ fc < U → ∀ d, Ge w (wr.drewN d) n g mB bb k ao m cp c F l f gb seq fb (wfi F f k (i + 1))) := fun h d => by
                have h' : ¬ flC F (f k) i < F (2 * i + 1) := by rw [← hU, ← hfc]; exact h
                exact (hY.drewN d).stay h'
              clear hA hU hfc hY
              by_cases hfU : fc < U
              · have HG := HUP.out hfU
                have HGH : Hid (∀ d, Ge w ((wr.drewN d).setCell ⟨fb, k, none⟩ (.int .u64 U)) n g mB bb k ao m cp c F l f gb seq fb (wfi F f k (i + 1))) := HG
                clear HG HUP HST
                go_wp2
                go_quiet (fail)
                go_wp2
                go_roundw
                case rel => exact ⟨i + 1, by omega, by go_num, HN.out, HGH.out _⟩
                case measure => simp [intOf]; omega
              · have HGH : Hid (∀ d, Ge w (wr.drewN d) n g mB bb k ao m cp c F l f gb seq fb (wfi F f k (i + 1))) := HST.out hfU
                clear HUP HST
                go_wp2
                go_quiet (fail)
                go_wp2
                go_roundw
                case rel => exact ⟨i + 1, by omega, by go_num, HN.out, HGH.out _⟩
                case measure => simp [intOf]; omega
            · obtain rfl : i = c := IsC.unique ⟨him0, HALL.out, fun h1 h2 => hgo ⟨h1, h2⟩⟩ hY.gd.isC
              have HOUT : Hid ((∃ x : Int, wr.cell? ⟨mB, i * 2, none⟩ = some (.int .u64 x) ∧ ¬ x ≤ mx (l k) seq ∧ (i : Int) < m ∧ i < m) ∨ i = m) := by
                by_cases h1 : i < m
                · exact .inl ⟨F (2 * i), by rw [Nat.mul_comm]; exact hY.gd.mine (2 * i) (by omega), fun h => hgo ⟨h1, h⟩, by omega, h1⟩
                · exact .inr (by omega)
              clear hgo hY
              rcases HOUT.out with ⟨x', x1, x2, x3, x4⟩ | hcm
              · rw [HE.out] at x2
                clear HOUT HALL
                go_wp2
                go_loopw [28] (fun jv wr => ∃ j : Nat, j ≤ 3 ∧ jv = .int .i64 j ∧ Ge w wr n g mB bb k ao m cp i F l f gb seq fb (wfj F f k i seq j)) (fun jv _ => 3 - (intOf jv).toNat)
                case atStart => exact ⟨0, by decide, rfl, HY.out.third⟩
                case round =>
                  clear HY
                  obtain ⟨j, hj, rfl, hY⟩ := hrel
                  have HY : Hid (Ge w wr n g mB bb k ao m cp i F l f gb seq fb (wfj F f k i seq j)) := hY
                  by_cases hj3 : j < 3
                  · have hq1 : (0 : Int) ≤ (j : Int) := by omega
                    have hq2 : (j : Int) < 3 := by omega
                    by_cases hjk : j = k
                    · have HNX : Hid (Ge w wr n g mB bb k ao m cp i F l f gb seq fb (wfj F f k i seq (j + 1))) := hY.pass (.inl hjk)
                      clear hY
                      subst hjk
                      go_wp2
                      go_roundw
                      case rel => exact ⟨j + 1, by omega, by go_num, HNX.out⟩
                      case measure => simp [intOf]; omega
                    · have hjk1 : ((j : Int) == (k : Int)) = false := by simp; omega
                      have x3 := hY.wf j hj3
                      rw [Nat.zero_add, wfj, if_neg hjk, if_neg (by omega)] at x3
                      have f3 := hY.fr j
                      by_cases hs : f j < seq
                      · have HNX : Hid (Ge w (wr.setCell ⟨fb, j, none⟩ (.int .u64 seq)) n g mB bb k ao m cp i F l f gb seq fb (wfj F f k i seq (j + 1))) := hY.raise hjk hs
                        clear hY
                        go_wp2
                        go_roundw
                        case rel => exact ⟨j + 1, by omega, by go_num, HNX.out⟩
                        case measure => simp [intOf]; omega
                      · have HNX : Hid (Ge w wr n g mB bb k ao m cp i F l f gb seq fb (wfj F f k i seq (j + 1))) := hY.pass (.inr hs)
                        clear hY
                        go_wp2
                        go_roundw
                        case rel => exact ⟨j + 1, by omega, by go_num, HNX.out⟩
                        case measure => simp [intOf]; omega
                  · obtain rfl : j = 3 := by omega
                    obtain ⟨fl, hfl⟩ : ∃ fl : Nat → Int, fl = (fun q => if q = k then flC F (f k) i else mx (f q) seq) := ⟨_, rfl⟩
                    have hfa : Three wr bb 0 fl := by rw [hfl]; exact hY.gd.floor
                    have hfw : Three wr fb 0 fl := fun q hq => by rw [hfl, ← wfj3 hq]; exact hY.wf q hq
                    have a0 := hfa 0 (by decide)
                    have a1 := hfa 1 (by decide)
                    have a2 := hfa 2 (by decide)
                    have c0 := hfw 0 (by decide)
                    have c1 := hfw 1 (by decide)
                    have c2 := hfw 2 (by decide)
                    simp only [Nat.zero_add] at a0 a1 a2 c0 c1 c2
                    have hneq := Ybad.neq23 (fl 0) (fl 1) (fl 2)
                    have HD : Hid (Gd w wr n g mB bb k ao m cp i F l f gb seq) := hY.gd
                    clear hY HY hfl hfa hfw
                    rw [show ((3 : Nat) : Int) = 3 from rfl]
                    go_wp2
                    go_quiet (fail)
                    refine absW (fun X => Gd w X n g mB bb k ao m cp i F l f gb seq) (HD.out.drewN _) ?_
                    clear HD a0 a1 a2 c0 c1 c2 hneq
                    intro X hX
                    have HD : Hid (Gd w X n g mB bb k ao m cp i F l f gb seq) := hX
                    clear hX
                    go_wp2
                    obtain ⟨zb, hzb⟩ : ∃ z, z = X.heap.size := ⟨_, rfl⟩
                    rw [← hzb]
                    refine absW (fun Z => Gd w Z n g mB bb k ao m cp i F l f gb seq ∧ Nine Z zb 0) ⟨HD.out.grew (Grew.alloc _ _), by rw [hzb]; exact Nine.init X 74⟩ ?_
                    clear HD hzb
                    rintro Z ⟨hZ, hN⟩
                    have HD : Hid (Gd w Z n g mB bb k ao m cp i F l f gb seq) := hZ
                    have s0 := hZ.said 0 (by decide)
                    have s1 := hZ.said 1 (by decide)
                    have s2 := hZ.said 2 (by decide)
                    have s3 := hZ.said 3 (by decide)
                    have s4 := hZ.said 4 (by decide)
                    have s5 := hZ.said 5 (by decide)
                    have s6 := hZ.said 6 (by decide)
                    have s7 := hZ.said 7 (by decide)
                    have s8 := hZ.said 8 (by decide)
                    have z0 := hN 0 (by decide)
                    have z1 := hN 1 (by decide)
                    have z2 := hN 2 (by decide)
                    have z3 := hN 3 (by decide)
                    have z4 := hN 4 (by decide)
                    have z5 := hN 5 (by decide)
                    have z6 := hN 6 (by decide)
                    have z7 := hN 7 (by decide)
                    have z8 := hN 8 (by decide)
                    simp only [Nat.zero_add, Nat.reduceAdd] at s0 s1 s2 s3 s4 s5 s6 s7 s8 z0 z1 z2 z3 z4 z5 z6 z7 z8
                    have hn74 := Ybad.neq74
                    clear hZ hN
                    go_quiet (fail)
                    refine absW (fun X => Gd w X n g mB bb k ao m cp i F l f gb seq) (HD.out.drewN _) ?_
                    clear HD s0 s1 s2 s3 s4 s5 s6 s7 s8 z0 z1 z2 z3 z4 z5 z6 z7 z8 hn74
                    intro X hX
                    have HD : Hid (Gd w X n g mB bb k ao m cp i F l f gb seq) := hX
                    clear hX
                    go_wp2
                    go_loopw [30] (fun jv wr => ∃ j : Nat, j ≤ 3 ∧ jv = .int .i64 j ∧ Gd w wr n g mB bb k ao m cp i F l f gb seq) (fun jv _ => 3 - (intOf jv).toNat)
                    case atStart => exact ⟨0, by decide, rfl, HD.out⟩
                    case round =>
                      clear HD
                      obtain ⟨j, hj, rfl, hD⟩ := hrel
                      have HD : Hid (Gd w wr n g mB bb k ao m cp i F l f gb seq) := hD
                      by_cases hj3 : j < 3
                      · have hq1 : (0 : Int) ≤ (j : Int) := by omega
                        have hq2 : (j : Int) < 3 := by omega
                        by_cases hjk : j = k
                        · clear hD
                          subst hjk
                          go_wp2
                          go_roundw
                          case rel => exact ⟨j + 1, by omega, by go_num, HD.out⟩
                          case measure => simp [intOf]; omega
                        · have hjk1 : ((j : Int) == (k : Int)) = false := by simp; omega
                          have x3 := hD.gapo j hj3 hjk
                          clear hD
                          go_wp2
                          go_roundw
                          case rel => exact ⟨j + 1, by omega, by go_num, HD.out⟩
                          case measure => simp [intOf]; omega
                      · obtain rfl : j = 3 := by omega
                        have x3 := hD.gapk
                        have hsub : ((m - i : Nat) : Int) = (m : Int) - i := by omega
                        obtain ⟨r, hr⟩ : ∃ r, r = m - i := ⟨_, rfl⟩
                        rw [← hr] at x3 hsub
                        have HR : Hid (r = m - i) := hr
                        clear hD hr
                        rw [show ((3 : Nat) : Int) = 3 from rfl]
                        go_wp2
                        go_loopw [32] (fun qv wr => ∃ q : Nat, q ≤ r ∧ qv = .int .i64 q ∧ Gd w wr n g mB bb k ao m cp i F l f gb seq) (fun qv _ => r - (intOf qv).toNat)
                        case atStart => exact ⟨0, by omega, rfl, HD.out⟩
                        case round =>
                          clear HD x3
                          obtain ⟨q, hq, rfl, hD⟩ := hrel
                          have HD : Hid (Gd w wr n g mB bb k ao m cp i F l f gb seq) := hD
                          have hrm := HR.out
                          by_cases hqr : q < r
                          · obtain ⟨ad, rfl⟩ : ∃ ad, ao = some ad := by
                              cases ao with
                              | none => have := hD.nil rfl; omega
                              | some ad => exact ⟨ad, rfl⟩
                            obtain rfl := hD.at' ad rfl
                            have x1 : wr.cell? ⟨g, q * 2, none⟩ = some (.int .u64 (F (2 * (i + q)))) := by have := hD.cells (2 * q) (by omega); rw [show 2 * i + 2 * q = 2 * (i + q) by omega, Nat.mul_comm 2 q] at this; exact this
                            have x2 : wr.cell? ⟨g, q * 2 + 1, none⟩ = some (.int .u64 (F (2 * (i + q) + 1))) := by have := hD.cells (2 * q + 1) (by omega); rw [show 2 * i + (2 * q + 1) = 2 * (i + q) + 1 by omega, Nat.mul_comm 2 q] at this; exact this
                            have y1 : wr.cell? ⟨mB, (i + q) * 2, none⟩ = some (.int .u64 (F (2 * (i + q)))) := by rw [Nat.mul_comm]; exact hD.mine (2 * (i + q)) (by omega)
                            have y2 : wr.cell? ⟨mB, (i + q) * 2 + 1, none⟩ = some (.int .u64 (F (2 * (i + q) + 1))) := by rw [Nat.mul_comm]; exact hD.mine (2 * (i + q) + 1) (by omega)
                            obtain ⟨A, hA⟩ : ∃ x, x = F (2 * (i + q)) := ⟨_, rfl⟩
                            obtain ⟨U, hU⟩ : ∃ x, x = F (2 * (i + q) + 1) := ⟨_, rfl⟩
                            rw [← hA] at x1 y1
                            rw [← hU] at x2 y2
                            have hneq := Ybad.neq78b A U
                            have hq1 : (q : Int) < r := by omega
                            have hq2 : (i : Int) + q < m := by omega
                            clear hD hA hU hrm
                            go_wp2
                            go_quiet (fail)
                            go_wp2
                            go_roundw
                            case rel => exact ⟨q + 1, by omega, by go_num, HD.out.drewN _⟩
                            case measure => simp [intOf]; omega
                          · obtain rfl : q = r := by omega
                            have h63 := hD.map
                            have h64 := hD.gap
                            have hobj := hD.obj
                            have hw16 : IntKind.i64.wrap (16 * (i : Int)) = 16 * i := by rw [IntKind.wrap_i64]; omega
                            by_cases him : i = m
                            · rw [if_pos him] at hobj
                              have hlook := mapLook0ok wr (n + 8) 1 hobj
                              have hlen2 := mapLen wr (n + 8) 1 _ hobj
                              have him1 : ((i : Int) == (m : Int)) = true := by simp; omega
                              clear hD him
                              go_wp2
                              go_ret
                              exact ⟨rfl, HD.out.bel⟩
                            · rw [if_neg him] at hobj
                              have hlook := mapLook1ok wr (n + 8) 1 _ hobj
                              have hlen2 := mapLen wr (n + 8) 1 _ hobj
                              have him1 : ((i : Int) == (m : Int)) = false := by simp; omega
                              have hps := ptrSame bb
                              clear hD
                              go_wp2
                              go_ret
                              exact ⟨rfl, HD.out.bel⟩
              · have hnl : ¬ (i : Int) < (m : Int) := by omega
                clear HOUT HALL
                go_wp2
                go_loopw [28] (fun jv wr => ∃ j : Nat, j ≤ 3 ∧ jv = .int .i64 j ∧ Ge w wr n g mB bb k ao m cp i F l f gb seq fb (wfj F f k i seq j)) (fun jv _ => 3 - (intOf jv).toNat)
                case atStart => exact ⟨0, by decide, rfl, HY.out.third⟩
                case round =>
                  clear HY
                  obtain ⟨j, hj, rfl, hY⟩ := hrel
                  have HY : Hid (Ge w wr n g mB bb k ao m cp i F l f gb seq fb (wfj F f k i seq j)) := hY
                  by_cases hj3 : j < 3
                  · have hq1 : (0 : Int) ≤ (j : Int) := by omega
                    have hq2 : (j : Int) < 3 := by omega
                    by_cases hjk : j = k
                    · have HNX : Hid (Ge w wr n g mB bb k ao m cp i F l f gb seq fb (wfj F f k i seq (j + 1))) := hY.pass (.inl hjk)
                      clear hY
                      subst hjk
                      go_wp2
                      go_roundw
                      case rel => exact ⟨j + 1, by omega, by go_num, HNX.out⟩
                      case measure => simp [intOf]; omega
                    · have hjk1 : ((j : Int) == (k : Int)) = false := by simp; omega
                      have x3 := hY.wf j hj3
                      rw [Nat.zero_add, wfj, if_neg hjk, if_neg (by omega)] at x3
                      have f3 := hY.fr j
                      by_cases hs : f j < seq
                      · have HNX : Hid (Ge w (wr.setCell ⟨fb, j, none⟩ (.int .u64 seq)) n g mB bb k ao m cp i F l f gb seq fb (wfj F f k i seq (j + 1))) := hY.raise hjk hs
                        clear hY
                        go_wp2
                        go_roundw
                        case rel => exact ⟨j + 1, by omega, by go_num, HNX.out⟩
                        case measure => simp [intOf]; omega
                      · have HNX : Hid (Ge w wr n g mB bb k ao m cp i F l f gb seq fb (wfj F f k i seq (j + 1))) := hY.pass (.inr hs)
                        clear hY
                        go_wp2
                        go_roundw
                        case rel => exact ⟨j + 1, by omega, by go_num, HNX.out⟩
                        case measure => simp [intOf]; omega
                  · obtain rfl : j = 3 := by omega
                    obtain ⟨fl, hfl⟩ : ∃ fl : Nat → Int, fl = (fun q => if q = k then flC F (f k) i else mx (f q) seq) := ⟨_, rfl⟩
                    have hfa : Three wr bb 0 fl := by rw [hfl]; exact hY.gd.floor
                    have hfw : Three wr fb 0 fl := fun q hq => by rw [hfl, ← wfj3 hq]; exact hY.wf q hq
                    have a0 := hfa 0 (by decide)
                    have a1 := hfa 1 (by decide)
                    have a2 := hfa 2 (by decide)
                    have c0 := hfw 0 (by decide)
                    have c1 := hfw 1 (by decide)
                    have c2 := hfw 2 (by decide)
                    simp only [Nat.zero_add] at a0 a1 a2 c0 c1 c2
                    have hneq := Ybad.neq23 (fl 0) (fl 1) (fl 2)
                    have HD : Hid (Gd w wr n g mB bb k ao m cp i F l f gb seq) := hY.gd
                    clear hY HY hfl hfa hfw
                    rw [show ((3 : Nat) : Int) = 3 from rfl]
                    go_wp2
                    go_quiet (fail)
                    refine absW (fun X => Gd w X n g mB bb k ao m cp i F l f gb seq) (HD.out.drewN _) ?_
                    clear HD a0 a1 a2 c0 c1 c2 hneq
                    intro X hX
                    have HD : Hid (Gd w X n g mB bb k ao m cp i F l f gb seq) := hX
                    clear hX
                    go_wp2
                    obtain ⟨zb, hzb⟩ : ∃ z, z = X.heap.size := ⟨_, rfl⟩
                    rw [← hzb]
                    refine absW (fun Z => Gd w Z n g mB bb k ao m cp i F l f gb seq ∧ Nine Z zb 0) ⟨HD.out.grew (Grew.alloc _ _), by rw [hzb]; exact Nine.init X 74⟩ ?_
                    clear HD hzb
                    rintro Z ⟨hZ, hN⟩
                    have HD : Hid (Gd w Z n g mB bb k ao m cp i F l f gb seq) := hZ
                    have s0 := hZ.said 0 (by decide)
                    have s1 := hZ.said 1 (by decide)
                    have s2 := hZ.said 2 (by decide)
                    have s3 := hZ.said 3 (by decide)
                    have s4 := hZ.said 4 (by decide)
                    have s5 := hZ.said 5 (by decide)
                    have s6 := hZ.said 6 (by decide)
                    have s7 := hZ.said 7 (by decide)
                    have s8 := hZ.said 8 (by decide)
                    have z0 := hN 0 (by decide)
                    have z1 := hN 1 (by decide)
                    have z2 := hN 2 (by decide)
                    have z3 := hN 3 (by decide)
                    have z4 := hN 4 (by decide)
                    have z5 := hN 5 (by decide)
                    have z6 := hN 6 (by decide)
                    have z7 := hN 7 (by decide)
                    have z8 := hN 8 (by decide)
                    simp only [Nat.zero_add, Nat.reduceAdd] at s0 s1 s2 s3 s4 s5 s6 s7 s8 z0 z1 z2 z3 z4 z5 z6 z7 z8
                    have hn74 := Ybad.neq74
                    clear hZ hN
                    go_quiet (fail)
                    refine absW (fun X => Gd w X n g mB bb k ao m cp i F l f gb seq) (HD.out.drewN _) ?_
                    clear HD s0 s1 s2 s3 s4 s5 s6 s7 s8 z0 z1 z2 z3 z4 z5 z6 z7 z8 hn74
                    intro X hX
                    have HD : Hid (Gd w X n g mB bb k ao m cp i F l f gb seq) := hX
                    clear hX
                    go_wp2
                    go_loopw [30] (fun jv wr => ∃ j : Nat, j ≤ 3 ∧ jv = .int .i64 j ∧ Gd w wr n g mB bb k ao m cp i F l f gb seq) (fun jv _ => 3 - (intOf jv).toNat)
                    case atStart => exact ⟨0, by decide, rfl, HD.out⟩
                    case round =>
                      clear HD
                      obtain ⟨j, hj, rfl, hD⟩ := hrel
                      have HD : Hid (Gd w wr n g mB bb k ao m cp i F l f gb seq) := hD
                      by_cases hj3 : j < 3
                      · have hq1 : (0 : Int) ≤ (j : Int) := by omega
                        have hq2 : (j : Int) < 3 := by omega
                        by_cases hjk : j = k
                        · clear hD
                          subst hjk
                          go_wp2
                          go_roundw
                          case rel => exact ⟨j + 1, by omega, by go_num, HD.out⟩
                          case measure => simp [intOf]; omega
                        · have hjk1 : ((j : Int) == (k : Int)) = false := by simp; omega
                          have x3 := hD.gapo j hj3 hjk
                          clear hD
                          go_wp2
                          go_roundw
                          case rel => exact ⟨j + 1, by omega, by go_num, HD.out⟩
                          case measure => simp [intOf]; omega
                      · obtain rfl : j = 3 := by omega
                        have x3 := hD.gapk
                        have hsub : ((m - i : Nat) : Int) = (m : Int) - i := by omega
                        obtain ⟨r, hr⟩ : ∃ r, r = m - i := ⟨_, rfl⟩
                        rw [← hr] at x3 hsub
                        have HR : Hid (r = m - i) := hr
                        clear hD hr
                        rw [show ((3 : Nat) : Int) = 3 from rfl]
                        go_wp2
                        go_loopw [32] (fun qv wr => ∃ q : Nat, q ≤ r ∧ qv = .int .i64 q ∧ Gd w wr n g mB bb k ao m cp i F l f gb seq) (fun qv _ => r - (intOf qv).toNat)
                        case atStart => exact ⟨0, by omega, rfl, HD.out⟩
                        case round =>
                          clear HD x3
                          obtain ⟨q, hq, rfl, hD⟩ := hrel
                          have HD : Hid (Gd w wr n g mB bb k ao m cp i F l f gb seq) := hD
                          have hrm := HR.out
                          by_cases hqr : q < r
                          · exfalso; omega
                          · obtain rfl : q = r := by omega
                            have h63 := hD.map
                            have h64 := hD.gap
                            have hobj := hD.obj
                            have hw16 : IntKind.i64.wrap (16 * (i : Int)) = 16 * i := by rw [IntKind.wrap_i64]; omega
                            by_cases him : i = m
                            · rw [if_pos him] at hobj
                              have hlook := mapLook0ok wr (n + 8) 1 hobj
                              have hlen2 := mapLen wr (n + 8) 1 _ hobj
                              have him1 : ((i : Int) == (m : Int)) = true := by simp; omega
                              clear hD him
                              go_wp2
                              go_ret
                              exact ⟨rfl, HD.out.bel⟩
                            · exact absurd hcm him
end Go.Proofs.YbulkdeduDoor

import Derived.Test.YbulkdeduFmtRt
import Derived.Maps.AppendAt
namespace Go.Proofs.YbulkdeduFmt
open Go.RowKit

theorem Ybaf.info5 : (Ybaf.prog.info? 5).map (fun i => (i.zero, i.size, i.bytes)) = some (some (.int .u8 0), 1, 1) := by kernel_rfl

/-- the bytes so far -/
def encL (v : Int) (k : Nat) : List Value := (List.range k).map (fun j => Value.int .u8 (eb v j))
theorem encL_succ (v : Int) (k : Nat) : encL v (k + 1) = encL v k ++ [Value.int .u8 (eb v k)] := by simp [encL, List.range_succ]

def tailL (t : Nat → Int) (tl : Nat) : List Value := (List.range tl).map (fun j => Value.int .u8 (t j))
theorem tail_one (t : Nat → Int) (tl : Nat) : ∀ u ∈ tailL t tl, u.oneCell' = true := by
  intro u hu; simp only [tailL, List.mem_map] at hu; obtain ⟨j, _, rfl⟩ := hu; rfl
theorem tail_cells {w : World} {a : Option Addr} {tl : Nat} {t : Nat → Int} (hT : BytesAt w a tl t) (hlt : ∀ b o, a = some ⟨b, o, none⟩ → 0 < tl → b < w.heap.size) :
    ∀ w2, Below w.heap.size w w2 → ∀ ad, a = some ad → ∀ (j : Nat) u, (tailL t tl)[j]? = some u → w2.cell? (ad.add j) = some u := by
  intro w2 hB ad ha j u hj
  simp only [tailL, List.getElem?_map] at hj
  by_cases h : j < tl
  · rw [List.getElem?_range h] at hj
    simp only [Option.map_some, Option.some.injEq] at hj
    obtain ⟨b, o, e, hc, _, _⟩ := hT j h
    rw [ha] at e
    simp only [Option.some.injEq] at e
    subst e
    rw [Go.WideShapes.add_plain, hB.cell (p := ⟨b, o + j, none⟩) (hlt b o ha (by omega)), hc, hj]
  · rw [List.getElem?_eq_none (by simpa using h)] at hj; cases hj

theorem enc_bytes {w w3 : World} {v x : Int} {k tl cp H : Nat} {t : Nat → Int} {a : Option Addr} (hx : x = v / 128 ^ k) (x0 : 0 ≤ x) (x1 : x < 128) (hT : BytesAt w a tl t)
    (hown : w3.ownsRow H 5 1 (.slice (some ⟨H, 0, none⟩) (k + 1 + tl) cp) (k + 1 + tl) (encL v k ++ [.int .u8 x] ++ tailL t tl)) : BytesAt w3 (some ⟨H, 0, none⟩) (k + 1 + tl) (encF v k t) := by
  intro j hj
  have hc := hown.cellAt j (by omega)
  refine ⟨H, 0, rfl, ?_, ?_⟩
  · rw [Nat.zero_add, hc]
    have l1 : (encL v k).length = k := by simp [encL]
    unfold encF
    by_cases e1 : j < k
    · rw [List.append_assoc, List.getElem?_append_left (by omega), if_pos e1]; simp [encL, e1]
    · rw [if_neg e1]
      by_cases e2 : j = k
      · rw [List.append_assoc, List.getElem?_append_right (by omega), l1, if_pos e2, e2]; simp [hx]
      · rw [if_neg e2, List.getElem?_append_right (by simp [l1]; omega)]
        have : j - (k + 1) < tl := by omega
        simp [l1, tailL, this]
  · unfold encF eb
    by_cases e1 : j < k
    · rw [if_pos e1]; omega
    · rw [if_neg e1]
      by_cases e2 : j = k
      · rw [if_pos e2, ← hx]; omega
      · rw [if_neg e2]
        obtain ⟨_, _, _, _, p1, p2⟩ := hT (j - (k + 1)) (by omega)
        exact ⟨p1, p2⟩
theorem BytesAt.alloc {w : World} {a : Option Addr} {len : Nat} {f : Nat → Int} (h : BytesAt w a len f) (hlt : ∀ b o, a = some ⟨b, o, none⟩ → b < w.heap.size) (ob : Obj) : BytesAt (w.alloc ob) a len f := by
  intro j hj
  obtain ⟨b, o, e, hc, p⟩ := h j hj
  exact ⟨b, o, e, (World.cell?_alloc_past ob b _ (hlt b o e)).trans hc, p⟩

theorem BytesAt.ext {w : World} {a : Option Addr} {len : Nat} {f g : Nat → Int} (h : BytesAt w a len f) (he : ∀ j, g j = f j) : BytesAt w a len g := by
  intro j hj; rw [he j]; exact h j hj
theorem BytesAt.setOther {w : World} {a : Option Addr} {len : Nat} {f : Nat → Int} (h : BytesAt w a len f) {p : Addr} (hne : ∀ b o, a = some ⟨b, o, none⟩ → 0 < len → b ≠ p.block) (v : Value) : BytesAt (w.setCell p v) a len f := by
  intro j hj
  obtain ⟨b, o, e, hc, q⟩ := h j hj
  refine ⟨b, o, e, ?_, q⟩
  rw [World.cell?_setCell_other _ _ _ _ (fun e' => hne b o e (by omega) (by rw [e']))]; exact hc
theorem BytesAt.below {w w' : World} {a : Option Addr} {len : Nat} {f : Nat → Int} (h : BytesAt w a len f) (hb : Below w.heap.size w w') (hlt : ∀ b o, a = some ⟨b, o, none⟩ → 0 < len → b < w.heap.size) : BytesAt w' a len f := by
  intro j hj
  obtain ⟨b, o, e, hc, q⟩ := h j hj
  exact ⟨b, o, e, (hb.cell (p := ⟨b, o + j, none⟩) (hlt b o e (by omega))).trans hc, q⟩
theorem below_drewN' {B : Nat} {a w : World} (h : Below B a w) (n : Nat) : Below B a (w.drewN n) := ⟨h.os, h.tape, h.output, h.size, h.block⟩

/-- THE WORLD UNDER A NAME OF ITS OWN: all that is known of it is F. -/
theorem absW {P : World → Prop} {w : World} (F : World → Prop) (hF : F w) (h : ∀ W, F W → P W) : P w := h w hF

set_option maxRecDepth 100000 in
set_option maxHeartbeats 1000000 in
theorem rt_any (v : Int) (a : Option Addr) (tl cap : Nat) (t : Nat → Int) (w : World) (h0 : 0 ≤ v) (h1 : v < 18446744073709551616) (hT : BytesAt w a tl t) (hnil : a = none → tl = 0 ∧ cap = 0) (hlt : ∀ b o, a = some ⟨b, o, none⟩ → 0 < tl → b < w.heap.size) :
    Calls Ybaf.prog 4 #[.int .u64 v, .slice a tl cap] w fun e w' => e = .returned (.bool true) ∧ Below w.heap.size w w' := by
  by_cases hl : (1024 : Int) < tl
  · go_enter Ybaf.func4, Ybaf.ntmps4
    go_wp2
    go_ret
    exact ⟨rfl, Below.refl _ _⟩
  · obtain ⟨i0, hi, hz0, hz1, hz2⟩ := info_parts Ybaf.info5
    obtain ⟨cp, hcp⟩ : ∃ cp : Nat, 10 + (tl : Int) = (cp : Int) := ⟨10 + tl, by omega⟩
    have HT : Hid (BytesAt w a tl t) := hT
    have HN : Hid (a = none → tl = 0 ∧ cap = 0) := hnil
    have HLT : Hid (∀ b o, a = some ⟨b, o, none⟩ → 0 < tl → b < w.heap.size) := hlt
    clear hT hnil hlt
    go_enter Ybaf.func4, Ybaf.ntmps4
    go_wp2_with (at_make; go_must (refine wpList_make_own _ rfl _ _ 22 rfl w.heap.size 5 i0 (.int .u8 0) 1 Ybaf.underlying22 hi hz0 hz1 .i64 .i64 (cp : Int) cp rfl rfl rfl (by rw [hz2]; omega) (by unfold maxLen; omega) (Nat.le_refl _) ?_); intro w1 hown hgrow)
    have HB1 : Hid (Below w.heap.size w w1) := (Below.refl _ w).grown hgrow (Nat.le_refl _) (fun k e => by cases e)
    clear hgrow
    go_loopw [5, 6] (fun ev xv wr => ∃ k : Nat, ev = .slice (some ⟨w.heap.size, 0, none⟩) k cp ∧ xv = .int .u64 (v / 128 ^ k) ∧ (∀ j, j < k → 128 ≤ v / 128 ^ j) ∧ wr.ownsRow w.heap.size 5 1 (.slice (some ⟨w.heap.size, 0, none⟩) k cp) k (encL v k) ∧ Below w.heap.size w wr)
      (fun _ xv _ => (intOf xv).toNat)
    case atStart => exact ⟨0, rfl, by simp, fun j hj => by omega, hown, HB1.out⟩
    case round =>
      clear hown HB1
      obtain ⟨k, rfl, rfl, hm, hown, hB⟩ := hrel
      have hk9 := enc_nine h0 h1 hm
      obtain ⟨x, hx⟩ : ∃ x, x = v / 128 ^ k := ⟨_, rfl⟩
      have HX : Hid (x = v / 128 ^ k) := hx
      have HM : Hid (∀ j, j < k → 128 ≤ v / 128 ^ j) := hm
      have HB : Hid (Below w.heap.size w wr) := hB
      have x0 : 0 ≤ x := by rw [hx]; exact Int.ediv_nonneg h0 (Int.le_of_lt (pow_pos k))
      have x1 : x < 18446744073709551616 := by rw [hx]; exact Int.lt_of_le_of_lt (Int.ediv_le_self _ h0) h1
      rw [← hx]
      clear hx hm hB
      by_cases hge : 128 ≤ x
      · have hor : bits .or .u8 (x % 256) 128 = eb v k := by
          rw [Lib.u8_or128_any _ (by omega) (by omega)]; unfold eb; rw [← HX.out]; omega
        go_wp2_with (at_builtin; go_must (refine wpList_append_fits _ rfl _ _ 22 rfl w.heap.size 5 i0 1 Ybaf.underlying22 hi hz1 w.heap.size k cp (encL v k) rfl (hown.alloc _) ⟨wr.heap.size, 0, none⟩ 1 1 [.int .u8 (eb v k)] rfl rfl (cell_one_new _ _ _) (by simp [Value.oneCell']) (by omega) ?_); intro w2 hown2 hgrow2)
        have HB2 : Hid (Below w.heap.size w w2) := (HB.out.alloc HB.out.size _).grown hgrow2 (by have := HB.out.size; simp; omega) (fun k e => by cases e; exact Nat.le_refl _)
        rw [← encL_succ] at hown2
        have HO2 : Hid (w2.ownsRow w.heap.size 5 1 (.slice (some ⟨w.heap.size, 0, none⟩) (k + 1) cp) (k + 1) (encL v (k + 1))) := hown2
        have HX2 : Hid (x / 128 = v / 128 ^ (k + 1)) := by show _ = _; rw [div_succ, ← HX.out]
        clear hown hown2 hgrow2 hor
        go_wp2
        go_roundw
        case rel =>
          refine ⟨k + 1, rfl, by rw [← HX2.out], fun j hj => ?_, HO2.out, HB2.out⟩
          by_cases e : j = k
          · rw [e, ← HX.out]; exact hge
          · exact HM.out j (by omega)
        case measure => simp [intOf]; omega
      · have hx256 : x % 256 = x := by omega
        have HTC : Hid (∀ w2, Below w.heap.size w w2 → ∀ ad, a = some ad → ∀ (j : Nat) u, (tailL t tl)[j]? = some u → w2.cell? (ad.add j) = some u) := tail_cells HT.out HLT.out
        go_wp2_with (first
          | (at_builtin; refine wpList_append_fits _ rfl (.tmp 28) (.tmp 31) 22 rfl w.heap.size 5 i0 1 Ybaf.underlying22 hi hz1 w.heap.size k cp (encL v k) rfl (hown.alloc _) ⟨wr.heap.size, 0, none⟩ 1 1 [.int .u8 x] rfl rfl (cell_one_new _ _ _) (by simp [Value.oneCell']) (by omega) ?_; intro w2 hown2 hgrow2; have HB2 : Hid (Below w.heap.size w w2) := (HB.out.alloc HB.out.size _).grown hgrow2 (by have := HB.out.size; simp; omega) (fun k e => by cases e; exact Nat.le_refl _))
          | (at_builtin; go_must (refine wpList_append_fits_any _ rfl (.tmp 35) (.tmp 36) 22 rfl w.heap.size 5 i0 1 Ybaf.underlying22 hi hz1 w.heap.size (k + 1) cp (encL v k ++ [.int .u8 x]) rfl hown2 a tl cap (tailL t tl) rfl (by simp [tailL]) HN.out (HTC.out _ HB2.out) (tail_one t tl) (by omega) ?_); intro w3 hown3 hgrow3))
        have hsz3 : w.heap.size < w3.heap.size := (hown3.lt _ rfl).2
        have HB3 : Hid (Below w.heap.size w w3) := HB2.out.grown hgrow3 HB2.out.size (fun k e => by cases e; exact Nat.le_refl _)
        have hBy3 : BytesAt w3 (some ⟨w.heap.size, 0, none⟩) (k + 1 + tl) (encF v k t) := enc_bytes HX.out x0 hge HT.out hown3
        have hB4 := HB3.out.alloc HB3.out.size (.cells #[.slice (some ⟨w.heap.size, 0, none⟩) (k + 1 + tl) cp, .int .i64 3, .nilIface, .slice none 0 0] 30)
        have hBy4 : BytesAt (w3.alloc (.cells #[.slice (some ⟨w.heap.size, 0, none⟩) (k + 1 + tl) cp, .int .i64 3, .nilIface, .slice none 0 0] 30)) (some ⟨w.heap.size, 0, none⟩) (k + 1 + tl) (encF v k t) := hBy3.alloc (fun b o e => by cases e; exact hsz3) _
        have hR4 : RW (w3.alloc (.cells #[.slice (some ⟨w.heap.size, 0, none⟩) (k + 1 + tl) cp, .int .i64 3, .nilIface, .slice none 0 0] 30)) w3.heap.size (some ⟨w.heap.size, 0, none⟩) (k + 1 + tl) cp .nilIface :=
          ⟨World.cell?_alloc_at _ _ _ _ rfl, World.cell?_alloc_at _ _ _ _ rfl, fun o => World.frozen?_alloc_at _ _ _ _ rfl, fun b o e => by cases e; omega⟩
        have HG : Hid (Good (encF v k t) (k + 1 + tl) k) := good_enc h0 h1 HM.out (by rw [← HX.out]; exact hge) hk9
        refine (uvarint_ok w3.heap.size _ (k + 1 + tl) cp k (encF v k t) _ _ (by omega) (by omega) (by omega) hBy4 hR4 HG.out).mono ?_
        rintro e w5 ⟨rfl, a', d, rfl, hC⟩
        have hv := val_enc (n := k) (t := t) h0 h1
        have etl : k + 1 + tl - (k + 1) = tl := by omega
        rw [etl, hv]
        have hshift : ∀ j, encF v k t (k + 1 + j) = t j := by intro j; unfold encF; rw [if_neg (by omega), if_neg (by omega)]; congr 1; omega
        refine absW (fun W => W.cell? ⟨w3.heap.size, 0, none⟩ = some (.slice a' tl (cp - (k + 1))) ∧ W.cell? ⟨w3.heap.size, 2, none⟩ = some .nilIface ∧ BytesAt W a' tl t ∧ (∀ a2, (0 < tl → a2 = some ⟨w.heap.size, k + 1, none⟩) → BytesAt W a2 tl t) ∧ BytesAt W a tl t ∧ Below w.heap.size w W) ?_ ?_
        · have hne : ∀ b o, a' = some ⟨b, o, none⟩ → 0 < tl → b ≠ w3.heap.size := by
            intro b o e htl
            obtain ⟨b', o', e1, e2⟩ := hC (by omega)
            simp only [Option.some.injEq, Addr.mk.injEq, and_true] at e1
            rw [e2] at e
            simp only [Option.some.injEq, Addr.mk.injEq, and_true] at e
            omega
          refine ⟨World.cell?_setCell_same _ _ _ hR4.c0, ?_, ?_, ?_, ?_, ?_⟩
          · show (World.setCell _ _ _).cell? _ = _
            rw [World.cell?_setCell_other _ _ _ _ (by intro e; cases e)]; exact hR4.c2
          · have := hC.bytes hBy4
            rw [etl] at this
            exact (this.ext (fun j => (hshift j).symm)).setOther hne _
          · intro a2 ha2
            have hC2 : Cut (some ⟨w.heap.size, 0, none⟩) (k + 1) (k + 1 + tl) a2 := fun h => ⟨w.heap.size, 0, rfl, by rw [ha2 (by omega), Nat.zero_add]⟩
            have := hC2.bytes hBy4
            rw [etl] at this
            exact (this.ext (fun j => (hshift j).symm)).setOther (fun b o e htl => by rw [ha2 htl] at e; cases e; show w.heap.size ≠ w3.heap.size; omega) _
          · exact (HT.out.below hB4 HLT.out).setOther (fun b o e htl => by have := HLT.out b o e htl; show b ≠ w3.heap.size; omega) _
          · exact below_drewN' (hB4.setCell (by simp; omega) _) _
        clear hC hBy4 hR4 hB4 hBy3 hgrow3 hown3 hgrow2 hown2 hown hv hshift HTC HB HB2 HB3 HG etl hx256 HM HX
        rintro W ⟨c0, c2, b1, b2, b3, hB⟩
        have HBW : Hid (Below w.heap.size w W) := hB
        have B1 : Hid (∀ n, BytesAt (W.drewN n) a' tl t) := fun _ => b1
        have B2 : Hid (∀ n a2, (0 < tl → a2 = some ⟨w.heap.size, k + 1, none⟩) → BytesAt (W.drewN n) a2 tl t) := fun _ => b2
        have B3 : Hid (∀ n, BytesAt (W.drewN n) a tl t) := fun _ => b3
        clear hB b1 b2 b3
        by_cases hcpk : cp = k + 1
        · have htl0 : tl = 0 := by omega
          subst hcpk
          subst htl0
          clear HT HLT HN
          go_wp2
          go_quiet ((go_at_call 10; refine Calls.quiet_of (eq_true _ _ _ _ _ t _ (by omega) ?_ ?_) <;> first | exact B1.out _ | exact B3.out _ | exact B2.out _ _ (fun h => by omega)))
          go_wp2
          go_ret
          exact ⟨rfl, below_drewN' HBW.out _⟩
        · have hq1 : (k : Int) + 1 ≤ cp := by omega
          go_wp2
          go_quiet ((go_at_call 10; refine Calls.quiet_of (eq_true _ _ _ _ _ t _ (by omega) ?_ ?_) <;> first | exact B1.out _ | exact B3.out _ | exact B2.out _ _ (fun _ => rfl)))
          go_wp2
          go_ret
          exact ⟨rfl, below_drewN' HBW.out _⟩
end Go.Proofs.YbulkdeduFmt

import Derived.Test.YbulkdeduFmtW4
namespace Go.Proofs.YbulkdeduFmt
open Go.RowKit

@[go_sem] theorem Ybaf.isIface26 : Ybaf.prog.isIface 26 = true := by kernel_rfl

/-- new blocks only -/
structure Grew (w W : World) : Prop where
  cell : ∀ b o : Nat, b < w.heap.size → W.cell? ⟨b, o, none⟩ = w.cell? ⟨b, o, none⟩
  fr : ∀ b o : Nat, b < w.heap.size → W.frozen? ⟨b, o, none⟩ = w.frozen? ⟨b, o, none⟩
  bel : Below w.heap.size w W
theorem Grew.alloc2 (w : World) (o1 o2 : Obj) : Grew w ((w.alloc o1).alloc o2).drew := by
  have hs : w.heap.size ≤ (w.alloc o1).heap.size := ((Below.refl _ w).alloc (Nat.le_refl _) o1).size
  refine ⟨fun b o hp => ?_, fun b o hp => ?_, ?_⟩
  · exact (World.cell?_alloc_past o2 b o (Nat.lt_of_lt_of_le hp hs)).trans (World.cell?_alloc_past o1 b o hp)
  · exact (World.frozen?_alloc_past o2 b o (Nat.lt_of_lt_of_le hp hs)).trans (World.frozen?_alloc_past o1 b o hp)
  · exact below_drewN' (((Below.refl _ w).alloc (Nat.le_refl _) o1).alloc hs o2) 1

/-- the reader at rb has kept an error; all else below stands -/
structure Fail (w : World) (rb : Nat) (w' : World) : Prop where
  err : ∃ ad, w'.cell? ⟨rb, 2, none⟩ = some (.iface 94 (.pointer (some ad)))
  same : ∀ b o : Nat, b < w.heap.size → (b ≠ rb ∨ o ≠ 2) → w'.cell? ⟨b, o, none⟩ = w.cell? ⟨b, o, none⟩
  bel : ∀ B, B ≤ rb → Below B w w'
theorem Fail.of {w W : World} {rb : Nat} (h : Grew w W) (hr : rb < w.heap.size) {v : Value} (hc : w.cell? ⟨rb, 2, none⟩ = some v) (ad : Addr) : Fail w rb (W.setCell ⟨rb, 2, none⟩ (.iface 94 (.pointer (some ad)))) := by
  refine ⟨⟨ad, World.cell?_setCell_same _ _ _ ((h.cell rb 2 hr).trans hc)⟩, fun b o hb hne => ?_, fun B hB => ?_⟩
  · rw [World.cell?_setCell_other _ _ _ _ (fun e => by cases e; omega)]; exact h.cell b o hb
  · exact (h.bel.mono (by omega)).setCell hB _

set_option maxRecDepth 100000 in
theorem cutShort_any (rb : Nat) (what : ByteArray) (w : World) (hr : rb < w.heap.size) (c2 : w.cell? ⟨rb, 2, none⟩ = some .nilIface) (fr : w.frozen? ⟨rb, 2, none⟩ = false) :
    Calls Ybaf.prog 24 #[.pointer (some ⟨rb, 0, none⟩), .string what] w fun e w' => e = .returned (.tuple #[]) ∧ Fail w rb w' := by
  go_enter Ybaf.func24, Ybaf.ntmps24
  go_wp2_with fail
  refine (errorf0 what _ _ (World.cell?_alloc_at _ _ _ _ rfl)).mono ?_
  rintro e w' ⟨rfl, s, rfl⟩
  refine absW (fun W => Grew w W) (Grew.alloc2 _ _ _) ?_
  intro W hG
  have g2 := (hG.cell rb 2 hr).trans c2
  have gf := (hG.fr rb 2 hr).trans fr
  have HF : Hid (∀ ad, Fail w rb (W.setCell ⟨rb, 2, none⟩ (.iface 94 (.pointer (some ad))))) := fun ad => Fail.of hG hr c2 ad
  clear hG
  go_wp2
  go_end0
  exact ⟨rfl, HF.out _⟩
set_option maxRecDepth 100000 in
set_option maxHeartbeats 1000000 in
theorem long_bad0 (rb : Nat) (a : Option Addr) (len cap s : Nat) (f : Nat → Int) (what : ByteArray) (w : World) (hl : len ≤ 2048) (hB : BytesAt w a len f) (hR : RW w rb a len cap .nilIface) (hS : Stop f len s) (h0 : len ≤ s) :
    Calls Ybaf.prog 17 #[.pointer (some ⟨rb, 0, none⟩), .string what] w fun e w' => e = .returned (.int .u64 0) ∧ Fail w rb w' := by
  have HU := uv_any a len cap s f w hl hB hS
  have hr : rb < w.heap.size := World.block_lt_of_cell? (a := ⟨rb, 2, none⟩) _ hR.c2
  rw [show uvRes f len s = (0, 0) by unfold uvRes; rw [if_pos h0]] at HU
  obtain ⟨c0, c2, fr, _⟩ := hR
  clear hB hS
  go_enter Ybaf.func17, Ybaf.ntmps17
  go_wp2_with fail
  refine HU.mono ?_
  rintro e w' ⟨rfl, rfl⟩
  clear HU
  go_wp2_with fail
  refine (cutShort_any rb what _ hr c2 (fr 2)).mono ?_
  rintro e w2 ⟨rfl, hF⟩
  have HF : Hid (Fail w' rb w2) := hF
  obtain ⟨ad, hc2⟩ := hF.err
  clear hF
  go_wp2
  go_ret
  exact ⟨rfl, HF.out⟩

set_option maxRecDepth 100000 in
set_option maxHeartbeats 1000000 in
theorem long_bad1 (rb : Nat) (a : Option Addr) (len cap s : Nat) (f : Nat → Int) (what : ByteArray) (w : World) (hl : len ≤ 2048) (hB : BytesAt w a len f) (hR : RW w rb a len cap .nilIface) (hS : Stop f len s) (n : Int) (hn : n < 0) (hu : uvRes f len s = (0, n)) :
    Calls Ybaf.prog 17 #[.pointer (some ⟨rb, 0, none⟩), .string what] w fun e w' => e = .returned (.int .u64 0) ∧ Fail w rb w' := by
  have HU := uv_any a len cap s f w hl hB hS
  have hr : rb < w.heap.size := World.block_lt_of_cell? (a := ⟨rb, 2, none⟩) _ hR.c2
  rw [hu] at HU
  obtain ⟨c0, c2, fr, _⟩ := hR
  clear hB hS hu
  have hz0 : (n == 0) = false := by simp; omega
  go_enter Ybaf.func17, Ybaf.ntmps17
  go_wp2_with fail
  refine HU.mono ?_
  rintro e w' ⟨rfl, rfl⟩
  clear HU
  go_wp2_with fail
  refine (errorf1 what _ _ (World.cell?_alloc_at _ _ _ _ rfl)).mono ?_
  rintro e w2 ⟨rfl, s, rfl⟩
  refine absW (fun W => Grew w' W) (Grew.alloc2 _ _ _) ?_
  intro W hG
  have g2 := (hG.cell rb 2 hr).trans c2
  have gf := (hG.fr rb 2 hr).trans (fr 2)
  have HF : Hid (∀ ad, Fail w' rb (W.setCell ⟨rb, 2, none⟩ (.iface 94 (.pointer (some ad))))) := fun ad => Fail.of hG hr c2 ad
  clear hG
  go_wp2
  go_ret
  exact ⟨rfl, HF.out _⟩

set_option maxRecDepth 100000 in
set_option maxHeartbeats 1000000 in
theorem long_bad2 (rb : Nat) (a : Option Addr) (len cap s : Nat) (f : Nat → Int) (what : ByteArray) (w : World) (hl : len ≤ 2048) (hB : BytesAt w a len f) (hR : RW w rb a len cap .nilIface) (hS : Stop f len s) (hs : s < len) (hs9 : s < 10) (h0 : 0 < s) (hz : f s = 0) (hu : uvRes f len s = (val f s, (s : Int) + 1)) :
    Calls Ybaf.prog 17 #[.pointer (some ⟨rb, 0, none⟩), .string what] w fun e w' => e = .returned (.int .u64 0) ∧ Fail w rb w' := by
  have HU := uv_any a len cap s f w hl hB hS
  have hr : rb < w.heap.size := World.block_lt_of_cell? (a := ⟨rb, 2, none⟩) _ hR.c2
  rw [hu] at HU
  obtain ⟨b, o, rfl, x0, p1, p2⟩ := hB s hs
  rw [hz] at x0
  obtain ⟨c0, c2, fr, _⟩ := hR
  clear hB hS hu hz
  go_enter Ybaf.func17, Ybaf.ntmps17
  go_wp2_with fail
  refine HU.mono ?_
  rintro e w' ⟨rfl, rfl⟩
  clear HU
  obtain ⟨sz, hsz⟩ : ∃ sz : Nat, s + 1 = sz := ⟨s + 1, rfl⟩
  have hszi : (s : Int) + 1 = (sz : Int) := by omega
  have hz0 : ((sz : Int) == 0) = false := by simp; omega
  have hz1 : ¬ (sz : Int) < 0 := by omega
  have hs1 : (sz : Int) - 1 = s := by omega
  have hsl : sz ≤ len := by omega
  have hst : s < sz := by omega
  have hg1 : decide (1 < (sz : Int)) = true := decide_eq_true (by omega)
  have hg2 : (1 : Int) < sz := by omega
  clear hsz
  go_wp2_with fail
  refine (errorf2 what _ _ (World.cell?_alloc_at _ _ _ _ rfl)).mono ?_
  rintro e w2 ⟨rfl, t, rfl⟩
  refine absW (fun W => Grew w' W) (Grew.alloc2 _ _ _) ?_
  intro W hG
  have g2 := (hG.cell rb 2 hr).trans c2
  have gf := (hG.fr rb 2 hr).trans (fr 2)
  have HF : Hid (∀ ad, Fail w' rb (W.setCell ⟨rb, 2, none⟩ (.iface 94 (.pointer (some ad))))) := fun ad => Fail.of hG hr c2 ad
  clear hG
  go_wp2
  go_ret
  exact ⟨rfl, HF.out _⟩

/-- no well-formed shortest uvarint: longUvarint keeps an error -/
theorem long_bad (rb : Nat) (a : Option Addr) (len cap s : Nat) (f : Nat → Int) (what : ByteArray) (w : World) (hl : len ≤ 2048) (hB : BytesAt w a len f) (hR : RW w rb a len cap .nilIface) (hS : Stop f len s) (hG : ¬ Good f len s) :
    Calls Ybaf.prog 17 #[.pointer (some ⟨rb, 0, none⟩), .string what] w fun e w' => e = .returned (.int .u64 0) ∧ Fail w rb w' := by
  by_cases h0 : len ≤ s
  · exact long_bad0 rb a len cap s f what w hl hB hR hS h0
  · by_cases h1 : s = 10
    · exact long_bad1 rb a len cap s f what w hl hB hR hS (-11) (by decide) (by unfold uvRes; rw [if_neg h0, if_pos h1])
    · by_cases h2 : s = 9 ∧ 1 < f 9
      · exact long_bad1 rb a len cap s f what w hl hB hR hS (-10) (by decide) (by unfold uvRes; rw [if_neg h0, if_neg h1, if_pos h2])
      · have h10 := hS.ten
        have hss : 0 < s ∧ f s = 0 := by
          refine Classical.byContradiction fun hc => hG ⟨hS, by omega, by omega, fun e => by have := fun h => h2 ⟨e, h⟩; omega, fun hp hq => hc ⟨hp, hq⟩⟩
        exact long_bad2 rb a len cap s f what w hl hB hR hS (by omega) (by omega) hss.1 hss.2 (by unfold uvRes; rw [if_neg h0, if_neg h1, if_neg h2])
end Go.Proofs.YbulkdeduFmt

import Derived.Test.YbulkdeduFmtW6
import Derived.Lib.SliceRun
namespace Go.Proofs.YbulkdeduFmt
open Go.RowKit

theorem Ybaf.size5 : (Ybaf.prog.info? 5).map (·.size) = some 1 := by kernel_rfl

theorem splice_all {L cs : List Value} (h : L.length = cs.length) : splice L 0 cs = cs := by
  simp [splice, ← h]

theorem made_row {w w1 : World} {len : Nat} {xs : List Value} (hown : w1.ownsRow w.heap.size 5 1 (.slice (some ⟨w.heap.size, 0, none⟩) len len) len xs) (hgrow : w.grownBy w1 none) :
    ∃ cur : List Value, w1.heap[w.heap.size]? = some (.cells cur.toArray 5 (0, 0)) ∧ cur.length = len ∧ Below w.heap.size w w1 := by
  obtain ⟨_, h | ⟨g, c, cur, e, _, hh, _, _, hcs, _⟩⟩ := hown
  · exact absurd h.1 (by simp)
  · simp only [Value.slice.injEq, Option.some.injEq, Addr.mk.injEq, and_true, true_and] at e
    obtain ⟨rfl, rfl⟩ := e
    exact ⟨cur.toList, by simpa using hh, by simpa using hcs, (Below.refl _ w).grown hgrow (Nat.le_refl _) (fun k e => by cases e)⟩

set_option maxRecDepth 100000 in
set_option maxHeartbeats 1000000 in
theorem copy_any (a : Option Addr) (len cap : Nat) (f : Nat → Int) (w : World) (hl : len ≤ 1024) (hB : BytesAt w a len f) (hnil : a = none → len = 0 ∧ cap = 0) (hlt : ∀ b o, a = some ⟨b, o, none⟩ → 0 < len → b < w.heap.size) :
    Calls Ybaf.prog 7 #[.slice a len cap] w fun e w' => ∃ a', e = .returned (.slice a' len len) ∧ BytesAt w' a' len f ∧ Below w.heap.size w w' ∧ (∀ b o, a' = some ⟨b, o, none⟩ → w.heap.size ≤ b ∧ b < w'.heap.size) := by
  have hN : ∀ (a : Option Addr) (n c : Nat) (w : World), (binOp .eql 22 (.slice a n c) (.slice none 0 0)).run Ybaf.prog w = .ok (.bool a.isNone) w := fun a n c w => Lib.run_eql_slice_nil w 22 5 a n c 0 0 Ybaf.underlying22
  cases a with
  | none =>
    obtain ⟨rfl, rfl⟩ := hnil rfl
    clear hB hlt hnil
    go_enter Ybaf.func7, Ybaf.ntmps7
    go_wp2
    go_ret
    exact ⟨none, rfl, fun j hj => by omega, Below.refl _ _, fun b o e => by cases e⟩
  | some ad =>
    obtain ⟨i0, hi, hz0, hz1, hz2⟩ := info_parts Ybaf.info5
    have HTC : Hid (∀ w2, Below w.heap.size w w2 → ∀ (j : Nat) u, (tailL f len)[j]? = some u → w2.cell? (ad.add j) = some u) := fun w2 h2 => tail_cells hB hlt w2 h2 ad rfl
    have HR : Hid (∀ j, j < len → 0 ≤ f j ∧ f j ≤ 255) := fun j hj => by obtain ⟨_, _, _, _, p⟩ := hB j hj; exact p
    clear hB hlt hnil
    obtain ⟨cs, hcsd⟩ : ∃ cs, cs = tailL f len := ⟨_, rfl⟩
    have HCS : Hid (cs = tailL f len) := hcsd
    have hlc : cs.length = len := by rw [hcsd]; simp [tailL]
    clear hcsd
    go_enter Ybaf.func7, Ybaf.ntmps7
    go_wp2_with (first
      | (at_make; go_must (refine wpList_make_full _ rfl _ _ 22 rfl w.heap.size 5 i0 (.int .u8 0) 1 Ybaf.underlying22 hi hz0 hz1 .i64 .i64 (len : Int) (len : Int) len rfl rfl rfl rfl (by rw [hz2]; omega) (by unfold maxLen; omega) (Nat.le_refl _) ?_); intro w1 hown hgrow; obtain ⟨cur, hcur, hcs, hB1⟩ := made_row hown hgrow; clear hown hgrow)
      | (refine wpList_copy_splice rfl (.tmp 9) (.tmp 10) 22 22 rfl 5 Ybaf.underlying22 Ybaf.size5 (some ⟨w.heap.size, 0, none⟩) (some ad) len len len cap ?hd ?hs w.heap.size 0 cur 5 ?hg cs ?hn ?hpos ?hfit ?h1 w.heap.size w ?hb ?hBg ?h; go_must ((case hd => rfl); (case hs => rfl); (case hg => exact hcur); (case hn => (rw [hlc]; simp)); (case hpos => exact (fun _ => ⟨rfl, ad, rfl, by rw [HCS.out]; exact HTC.out w1 hB1⟩)); (case hfit => omega); (case h1 => (rw [HCS.out]; exact tail_one f len)); (case hb => exact hB1); (case hBg => exact (Nat.le_refl _))); intro w2 HG2 hB2))
    have HBy : Hid (BytesAt w2 (some ⟨w.heap.size, 0, none⟩) len f ∧ w.heap.size < w2.heap.size) := by
      have hg := HG2.out
      rw [splice_all (by omega)] at hg
      have hown : w2.ownsRow w.heap.size 5 1 (.slice (some ⟨w.heap.size, 0, none⟩) len len) len cs :=
        ⟨by omega, .inr ⟨w.heap.size, len, cs.toArray, rfl, Nat.le_refl _, hg, Nat.le_refl _, by unfold maxLen; omega, by rw [Nat.mul_one, ← hlc]; simp, by rw [Nat.mul_one, ← hlc]; simp⟩⟩
      refine ⟨fun j hj => ⟨w.heap.size, 0, rfl, ?_, HR.out j hj⟩, (hown.lt _ rfl).2⟩
      rw [Nat.zero_add, hown.cellAt j (by omega), HCS.out]
      simp [tailL, hj]
    have HB2 : Hid (Below w.heap.size w w2) := hB2
    clear hB2 hB1 HG2 hcur HTC
    go_wp2
    go_ret
    exact ⟨_, rfl, HBy.out.1, HB2.out, fun b o e => by cases e; exact ⟨Nat.le_refl _, HBy.out.2⟩⟩
end Go.Proofs.YbulkdeduFmt

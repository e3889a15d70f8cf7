import Derived.Test.YbulkdeduFmtW7
namespace Go.Proofs.YbulkdeduFmt
open Go.RowKit

theorem stop_ex (f : Nat → Int) (len : Nat) : ∃ s, Stop f len s := by
  have key : ∀ k s, s + k = min len 10 → (∀ j, j < s → 128 ≤ f j) → ∃ s, Stop f len s := by
    intro k
    induction k with
    | zero => intro s h hm; exact ⟨s, by omega, by omega, hm, fun h1 h2 => by omega⟩
    | succ k ih =>
      intro s h hm
      by_cases hb : f s < 128
      · exact ⟨s, by omega, by omega, hm, fun _ _ => hb⟩
      · refine ih (s + 1) (by omega) (fun j hj => ?_)
        by_cases e : j = s
        · rw [e]; omega
        · exact hm j (by omega)
  exact key (min len 10) 0 (by omega) (fun j hj => by omega)

theorem Ybaf.same94 (W : World) (ad : Addr) : (binOp .eql 26 (.iface 94 (.pointer (some ad))) (.iface 94 (.pointer (some ad)))).run Ybaf.prog W = .ok (.bool true) W :=
  run_eql_iface_same W 26 94 96 Ybaf.t94 0 Ybaf.isIface26 (by kernel_rfl) (by kernel_rfl) (by kernel_rfl) (by kernel_rfl) ad

set_option maxRecDepth 100000 in
set_option maxHeartbeats 1000000 in
theorem model_any (pre : Bool) (a : Option Addr) (len cap : Nat) (f : Nat → Int) (w : World) (hT : BytesAt w a len f) (hnil : a = none → len = 0 ∧ cap = 0) (hlt : ∀ b o, a = some ⟨b, o, none⟩ → 0 < len → b < w.heap.size) :
    Calls Ybaf.prog 3 #[.slice a len cap, .bool pre] w fun e w' => e = .returned (.bool true) ∧ Below w.heap.size w w' := by
  by_cases hl : (1024 : Int) < len
  · go_enter Ybaf.func3, Ybaf.ntmps3
    go_wp2
    go_ret
    exact ⟨rfl, Below.refl _ _⟩
  · have HC := copy_any a len cap f w (by omega) hT hnil hlt
    have HT : Hid (BytesAt w a len f) := hT
    have HLT : Hid (∀ b o, a = some ⟨b, o, none⟩ → 0 < len → b < w.heap.size) := hlt
    clear hT hnil hlt
    cases pre with
    | true =>
      have hsame := Ybaf.same94
      go_enter Ybaf.func3, Ybaf.ntmps3
      go_wp2_with fail
      refine HC.mono ?_
      rintro e w1 ⟨a', rfl, hB1, hbel, hblk⟩
      clear HC
      have HB1 : Hid (BytesAt w1 a' len f) := hB1
      have HBE : Hid (Below w.heap.size w w1) := hbel
      have HBK : Hid (∀ b o, a' = some ⟨b, o, none⟩ → w.heap.size ≤ b ∧ b < w1.heap.size) := hblk
      clear hB1 hbel hblk
      go_wp2_with fail
      refine (errNew _ _).mono ?_
      rintro e w2 ⟨rfl, rfl⟩
      refine absW (fun W => W.cell? ⟨w1.heap.size, 0, none⟩ = some (.slice a' len len) ∧ W.cell? ⟨w1.heap.size, 2, none⟩ = some .nilIface ∧ (∀ o, W.frozen? ⟨w1.heap.size, o, none⟩ = false) ∧ BytesAt W a' len f ∧ BytesAt W a len f ∧ Below w.heap.size w W) ?_ ?_
      · have hb2 := HBE.out.alloc HBE.out.size (.cells #[.slice a' len len, .int .i64 5, .nilIface, .slice none 0 0] 30)
        have hsz : w1.heap.size < (w1.alloc (.cells #[.slice a' len len, .int .i64 5, .nilIface, .slice none 0 0] 30)).heap.size := by
          simp
        refine ⟨?_, ?_, fun o => ?_, ?_, ?_, hb2.alloc hb2.size _⟩
        · rw [World.cell?_alloc_past _ _ _ hsz]; exact World.cell?_alloc_at _ _ _ _ rfl
        · rw [World.cell?_alloc_past _ _ _ hsz]; exact World.cell?_alloc_at _ _ _ _ rfl
        · rw [World.frozen?_alloc_past _ _ _ hsz]; exact World.frozen?_alloc_at _ _ _ _ rfl
        · exact (HB1.out.alloc (fun b o e => (HBK.out b o e).2) _).alloc (fun b o e => Nat.lt_trans (HBK.out b o e).2 hsz) _
        · exact HT.out.below (hb2.alloc hb2.size _) HLT.out
      rintro W ⟨c0, c2, fr, b1, b2, hB⟩
      have B1 : Hid (BytesAt W a' len f) := b1
      have B2 : Hid (BytesAt W a len f) := b2
      have HBW : Hid (Below w.heap.size w W) := hB
      have hK : w.heap.size ≤ w1.heap.size := HBE.out.size
      have HNE : Hid (∀ b o, a = some ⟨b, o, none⟩ → 0 < len → b ≠ w1.heap.size) := fun b o e h => by have := HLT.out b o e h; omega
      have HNE' : Hid (∀ b o, a' = some ⟨b, o, none⟩ → 0 < len → b ≠ w1.heap.size) := fun b o e h => by have := (HBK.out b o e).2; omega
      clear b1 b2 hB HB1 HBE HBK HT HLT
      go_wp2_with fail
      refine (uvarint_pre _ _ _ _ _ (World.cell?_setCell_same _ _ _ c2)).mono ?_
      rintro e w3 ⟨rfl, rfl⟩
      refine absW (fun V => V.cell? ⟨w1.heap.size, 0, none⟩ = some (.slice a' len len) ∧ V.cell? ⟨w1.heap.size, 2, none⟩ = some (.iface 94 (.pointer (some ⟨w1.heap.size + 1, 0, none⟩))) ∧ BytesAt V a' len f ∧ BytesAt V a len f ∧ Below w.heap.size w V) ?_ ?_
      · refine ⟨?_, World.cell?_setCell_same _ _ _ c2, ?_, ?_, ?_⟩
        · rw [World.cell?_setCell_other _ _ _ _ (by intro e; cases e)]; exact c0
        · exact B1.out.setOther (fun b o e h => HNE'.out b o e h) _
        · exact B2.out.setOther (fun b o e h => HNE.out b o e h) _
        · exact HBW.out.setCell hK _
      clear c0 c2 fr B1 B2 HBW HNE HNE'
      rintro V ⟨c0, c2, b1, b2, hB⟩
      have B1 : Hid (∀ n, BytesAt (V.drewN n) a' len f) := fun _ => b1
      have B2 : Hid (∀ n, BytesAt (V.drewN n) a len f) := fun _ => b2
      have HBW : Hid (Below w.heap.size w V) := hB
      clear b1 b2 hB
      go_wp2_with fail
      refine (eq_true _ _ _ _ _ f _ (by omega) (B1.out 0) (B2.out 0)).mono ?_
      rintro e w4 ⟨rfl, d, rfl⟩
      go_wp2_with fail
      refine (eq_true _ _ _ _ _ f _ (by omega) (B1.out d) (B1.out d)).mono ?_
      rintro e w4 ⟨rfl, d2, rfl⟩
      go_wp2
      go_ret
      exact ⟨rfl, below_drewN' HBW.out _⟩
    | false =>
      obtain ⟨s, hS⟩ := stop_ex f len
      go_enter Ybaf.func3, Ybaf.ntmps3
      go_wp2_with fail
      refine HC.mono ?_
      rintro e w1 ⟨a', rfl, hB1, hbel, hblk⟩
      clear HC
      have HB1 : Hid (BytesAt w1 a' len f) := hB1
      have HBE : Hid (Below w.heap.size w w1) := hbel
      have HBK : Hid (∀ b o, a' = some ⟨b, o, none⟩ → w.heap.size ≤ b ∧ b < w1.heap.size) := hblk
      have HS : Hid (Stop f len s) := hS
      clear hB1 hbel hblk hS
      go_wp2_with fail
      have hb2 := HBE.out.alloc HBE.out.size (.cells #[.slice a' len len, .int .i64 5, .nilIface, .slice none 0 0] 30)
      have hB2 := HB1.out.alloc (fun b o e => (HBK.out b o e).2) (.cells #[.slice a' len len, .int .i64 5, .nilIface, .slice none 0 0] 30)
      have hR : RW (w1.alloc (.cells #[.slice a' len len, .int .i64 5, .nilIface, .slice none 0 0] 30)) w1.heap.size a' len len .nilIface :=
        ⟨World.cell?_alloc_at _ _ _ _ rfl, World.cell?_alloc_at _ _ _ _ rfl, fun o => World.frozen?_alloc_at _ _ _ _ rfl, fun b o e => by have := (HBK.out b o e).2; omega⟩
      have hB3 : BytesAt (w1.alloc (.cells #[.slice a' len len, .int .i64 5, .nilIface, .slice none 0 0] 30)) a len f := HT.out.below hb2 HLT.out
      have hK : w.heap.size ≤ w1.heap.size := HBE.out.size
      have HNE : Hid (∀ b o, a = some ⟨b, o, none⟩ → 0 < len → b ≠ w1.heap.size) := fun b o e h => by have := HLT.out b o e h; omega
      have HNE' : Hid (∀ b o, a' = some ⟨b, o, none⟩ → 0 < len → b ≠ w1.heap.size) := fun b o e h => by have := (HBK.out b o e).2; omega
      by_cases hG : Good f len s
      · have hlen := hG.lt
        refine (uvarint_ok w1.heap.size a' len len s f _ _ (by omega) (Nat.le_refl _) (by omega) hB2 hR hG).mono ?_
        rintro e w5 ⟨rfl, a2, d, rfl, hC⟩
        obtain ⟨b, o, rfl, _, _, _⟩ := HB1.out 0 (by omega)
        have hdec := hG.dec
        have HD := fun W hW => dec_any (some ⟨b, o, none⟩) len len s f W (by omega) hW HS.out
        rw [hdec] at HD
        refine absW (fun W => W.cell? ⟨w1.heap.size, 0, none⟩ = some (.slice a2 (len - (s + 1)) (len - (s + 1))) ∧ W.cell? ⟨w1.heap.size, 2, none⟩ = some .nilIface ∧ BytesAt W a2 (len - (s + 1)) (fun j => f (s + 1 + j)) ∧ (∀ a3, Cut (some ⟨b, o, none⟩) (s + 1) len a3 → BytesAt W a3 (len - (s + 1)) (fun j => f (s + 1 + j))) ∧ BytesAt W (some ⟨b, o, none⟩) len f ∧ BytesAt W a len f ∧ Below w.heap.size w W) ?_ ?_
        · have hc3 : ∀ a3, Cut (some ⟨b, o, none⟩) (s + 1) len a3 → BytesAt ((w1.alloc (.cells #[.slice (some ⟨b, o, none⟩) len len, .int .i64 5, .nilIface, .slice none 0 0] 30)).setCell ⟨w1.heap.size, 0, none⟩ (.slice a2 (len - (s + 1)) (len - (s + 1)))) a3 (len - (s + 1)) (fun j => f (s + 1 + j)) := by
            intro a3 h3
            refine (h3.bytes hB2).setOther (fun b' o' e h => ?_) _
            obtain ⟨b4, o4, e4, e5⟩ := h3 (by omega)
            cases e4
            rw [e5] at e
            cases e
            exact HNE'.out _ _ rfl (by omega)
          refine ⟨World.cell?_setCell_same _ _ _ hR.c0, ?_, hc3 a2 hC, hc3, hB2.setOther (fun b o e h => HNE'.out b o e h) _, hB3.setOther (fun b o e h => HNE.out b o e h) _, below_drewN' (hb2.setCell hK _) _⟩
          show (World.setCell _ _ _).cell? _ = _
          rw [World.cell?_setCell_other _ _ _ _ (by intro e; cases e)]; exact hR.c2
        clear hC hB2 hB3 hR hb2 HNE HNE' hdec HB1 HBE HBK HT HLT HS hG
        rintro W ⟨c0, c2, b1, b2, b3, b4, hB⟩
        have HBW : Hid (Below w.heap.size w W) := hB
        have B1 : Hid (∀ n m, BytesAt ((W.drewN n).drewN m) a2 (len - (s + 1)) (fun j => f (s + 1 + j))) := fun _ _ => b1
        have B2 : Hid (∀ n m a3, Cut (some ⟨b, o, none⟩) (s + 1) len a3 → BytesAt ((W.drewN n).drewN m) a3 (len - (s + 1)) (fun j => f (s + 1 + j))) := fun _ _ => b2
        have B3 : Hid (∀ n, BytesAt (W.drewN n) (some ⟨b, o, none⟩) len f) := fun _ => b3
        have B4 : Hid (∀ n, BytesAt (W.drewN n) a len f) := fun _ => b4
        clear hB b1 b2 b3 b4
        go_wp2_with fail
        refine (eq_true _ _ _ _ _ f _ (by omega) (B3.out 0) (B4.out 0)).mono ?_
        rintro e V ⟨rfl, d1, h4⟩
        have C0 : V.cell? ⟨w1.heap.size, 0, none⟩ = some (.slice a2 (len - (s + 1)) (len - (s + 1))) := by rw [h4]; exact c0
        have C2 : V.cell? ⟨w1.heap.size, 2, none⟩ = some .nilIface := by rw [h4]; exact c2
        have D1 : Hid (∀ n, BytesAt (V.drewN n) a2 (len - (s + 1)) (fun j => f (s + 1 + j))) := fun n => by rw [h4]; exact B1.out d1 n
        have D2 : Hid (∀ n a3, Cut (some ⟨b, o, none⟩) (s + 1) len a3 → BytesAt (V.drewN n) a3 (len - (s + 1)) (fun j => f (s + 1 + j))) := fun n => by rw [h4]; exact B2.out d1 n
        have D3 : Hid (BytesAt V (some ⟨b, o, none⟩) len f) := by rw [h4]; exact B3.out d1
        have HBV : Hid (Below w.heap.size w V) := by rw [h4]; exact below_drewN' HBW.out _
        clear h4 c0 c2 B1 B2 B3 B4 HBW
        go_wp2_with fail
        refine (HD _ D3.out).mono ?_
        rintro e w4 ⟨rfl, rfl⟩
        clear HD
        obtain ⟨sz, hsz⟩ : ∃ sz : Nat, s + 1 = sz := ⟨s + 1, rfl⟩
        have hszi : (s : Int) + 1 = (sz : Int) := by omega
        have hszl : sz ≤ len := by omega
        rw [hsz] at C0 D1 D2
        clear hsz
        by_cases hcl : len = sz
        · subst hcl
          have ez : len - len = 0 := by omega
          have hq1 : (len : Int) ≤ len := by omega
          go_wp2
          go_quiet ((go_at_call 10; go_must (refine Calls.quiet_of (eq_true _ _ _ _ _ (fun j => f (len + j)) _ ?_ ?_ ?_) <;> first | omega | exact D1.out _ | exact fun j hj => by omega)))
          go_wp2
          go_ret
          exact ⟨rfl, below_drewN' HBV.out _⟩
        · have hszl' : sz < len := by omega
          have hq1 : (sz : Int) ≤ (len : Int) := by omega
          go_wp2
          go_quiet ((go_at_call 10; go_must (refine Calls.quiet_of (eq_true _ _ _ _ _ (fun j => f (sz + j)) _ ?_ ?_ ?_) <;> first | omega | exact D1.out _ | exact D2.out _ _ (fun _ => ⟨_, _, rfl, rfl⟩))))
          go_wp2
          go_ret
          exact ⟨rfl, below_drewN' HBV.out _⟩
      · refine (uvarint_bad w1.heap.size a' len len s f _ _ (by omega) hB2 hR HS.out hG).mono ?_
        rintro e w5 ⟨rfl, hF⟩
        have HD := fun W hW => dec_any a' len len s f W (by omega) hW HS.out
        rw [dec_bad HS.out hG] at HD
        obtain ⟨ad, c2⟩ := hF.err
        have c0 := (hF.same w1.heap.size 0 (by simp) (.inr (by decide))).trans hR.c0
        have hlt1 : ∀ b o, a' = some ⟨b, o, none⟩ → b < (w1.alloc (.cells #[.slice a' len len, .int .i64 5, .nilIface, .slice none 0 0] 30)).heap.size := fun b o e => by have := (HBK.out b o e).2; simp; omega
        have B1 : Hid (∀ n, BytesAt (w5.drewN n) a' len f) := fun n j hj => by
          obtain ⟨b, o, e, hc, p⟩ := hB2 j hj
          exact ⟨b, o, e, (hF.same b (o + j) (hlt1 b o e) (.inl (HNE'.out b o e (by omega)))).trans hc, p⟩
        have B4 : Hid (∀ n, BytesAt (w5.drewN n) a len f) := fun n j hj => by
          obtain ⟨b, o, e, hc, p⟩ := hB3 j hj
          have := HLT.out b o e (by omega)
          exact ⟨b, o, e, (hF.same b (o + j) (by simp; omega) (.inl (HNE.out b o e (by omega)))).trans hc, p⟩
        have HBW : Hid (Below w.heap.size w w5) := hb2.trans (hF.bel _ hK)
        clear hF hlt1 hB2 hB3 hR hb2 HNE HNE' HB1 HBE HBK HT HLT HS hG
        go_wp2_with fail
        refine (eq_true _ _ _ _ _ f _ (by omega) (B1.out 0) (B4.out 0)).mono ?_
        rintro e w4 ⟨rfl, d1, rfl⟩
        go_wp2_with fail
        refine (HD _ (B1.out d1)).mono ?_
        rintro e w4 ⟨rfl, rfl⟩
        clear HD
        go_wp2_with fail
        refine (eq_true _ _ _ _ _ f _ (by omega) (B1.out d1) (B1.out d1)).mono ?_
        rintro e w4 ⟨rfl, d2, rfl⟩
        go_wp2
        go_ret
        exact ⟨rfl, below_drewN' HBW.out _⟩
end Go.Proofs.YbulkdeduFmt

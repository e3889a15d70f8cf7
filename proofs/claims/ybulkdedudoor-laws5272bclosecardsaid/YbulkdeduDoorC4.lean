import Derived.Test.YbulkdeduDoorBd
namespace Go.Proofs.YbulkdeduDoor
open Go.RowKit Go.ChangeMaps Go.MapKept

set_option maxRecDepth 100000 in
set_option maxHeartbeats 8000000 in
theorem take_close (B n vb kb k g bb mb : Nat) (hk : k < 3) (seq gb : Int) (l f F : Nat → Int) (ao : Option Addr) (m cp : Nat) (hm : m ≤ 512) (after : Bool) (w : World) (hV : Env w vb kb k seq after (fun _ => 0)) (hE : Eng w n (l 0) (l 1) (l 2)) (hvb : vb < w.heap.size) (hl0 : ∀ i, i < 3 → 0 ≤ l i) (hD : Bd w B n g bb mb k ao m cp F f gb) :
    Calls Ybad.prog 7 #[.pointer (some ⟨n + 7, 0, none⟩), .pointer (some ⟨vb, 0, none⟩)] w fun e w' => e = .returned (.tuple #[]) ∧ ∃ c, TookC w w' B n g bb mb k ao m cp c F f gb seq (mx (l k) seq) := by
  have HD : Hid (Bd w B n g bb mb k ao m cp F f gb) := hD
  have hn := hD.b2
  have HL0 : Hid (∀ i, i < 3 → 0 ≤ l i) := hl0
  clear hD hl0
  have HV : Hid (Env w vb kb k seq after (fun _ => 0)) := hV
  have HE : Hid (Eng w n (l 0) (l 1) (l 2)) := hE
  obtain ⟨e0, e1, e2, e11, e12, e13, e14, kd, h256⟩ := hV
  have HM : Hid (∀ d, Calls Ybad.prog 8 #[.pointer (some ⟨vb, 0, none⟩)] (w.drewN d) fun e w' => e = .returned (.int .u8 k) ∧ ∃ d', w' = (w.drewN d).drewN d') := fun d => msgKind_quiet vb kb k (w.drewN d) e0 kd h256
  clear kd h256 hE
  go_enter Ybad.func7, Ybad.ntmps7
  go_wp2
  go_quiet ((go_at_call 8; exact Calls.quiet_of (HM.out _)))
  refine absW (fun X => Grew w X) (Grew.drewN w _) ?_
  intro X hG
  have HX : Hid (Grew w X) := hG
  have hsX : w.heap.size ≤ X.heap.size := hG.bel.size
  have hvX : vb < X.heap.size := by omega
  have hnX : n + 7 < X.heap.size := by omega
  have hmX := (hG.cell (n + 7) 63 hn).trans HD.out.map
  have hlook := mapLook1 X mb 1 _ ((hG.bel.block mb HD.out.b3).trans HD.out.obj)
  have hVX : Env X vb kb k seq after (fun _ => 0) := HV.out.keep (fun b o hb => hG.cell b o (by rcases hb with h | h <;> omega))
  have HEX : Hid (Eng X n (l 0) (l 1) (l 2)) := HE.out.grew hn hG
  have z0 := (hG.cell bb (6 + k * 3) HD.out.b1).trans (HD.out.said (k * 3) (by omega))
  have z1 := (hG.cell bb (6 + k * 3 + 1) HD.out.b1).trans (HD.out.said (k * 3 + 1) (by omega))
  have z2 := (hG.cell bb (6 + k * 3 + 2) HD.out.b1).trans (HD.out.said (k * 3 + 2) (by omega))
  have hbX : bb < X.heap.size := Nat.lt_of_lt_of_le HD.out.b1 hsX
  clear hG HM e0 e1 e2 e11 e12 e13 e14 HV HE
  obtain ⟨e0, e1, e2, e11, e12, e13, e14, kd, h256⟩ := hVX
  clear kd h256 e0
  have hj1 : (0 : Int) ≤ (k : Int) := by omega
  have hj2 : (k : Int) < 3 := by omega
  have HSZ : Hid (∀ a, Sz w (X.alloc (.cells #[.int .u64 0, .int .u64 0, .int .u64 0] a)) X.heap.size) := fun a => Sz.init HX.out a
  cases after
  all_goals
    go_wp2_with fail
    refine (lastTaken_any n (l 0) (l 1) (l 2) _ (HEX.out.grew hnX (Grew.alloc X (.cells #[.int .u64 0, .int .u64 0, .int .u64 0] 23))) (by simp only [World.size_alloc]; omega)).mono ?_
    rintro e w2 ⟨rfl, hg2⟩
    have HS2 : Hid (Sz w w2 X.heap.size) := by
      have h := HSZ.out 23
      exact ⟨h.1.trans hg2, h.2.1.keep (fun i _ => hg2.cell _ _ h.2.2.2), fun o => (hg2.fr _ _ h.2.2.2).trans (h.2.2.1 o), Nat.lt_of_lt_of_le h.2.2.2 hg2.bel.size⟩
    clear hg2 e1 e2 e11 e12 e13 e14 HEX z0 z1 z2 hmX hlook HSZ
    go_wp2
    refine absW (fun Y => St w Y B n g bb mb k ao m cp F l (flj f k seq 0) gb X.heap.size w2.heap.size) ?_ ?_
    · have h := HS2.out
      have hga := Grew.alloc w2 (.cells #[.int .u64 (l 0), .int .u64 (l 1), .int .u64 (l 2)] 23)
      refine (HD.out.st (h.1.trans hga) (h.2.1.keep (fun i _ => hga.cell _ _ h.2.2.2)) (fun i hi => (World.cell?_alloc_at _ _ _ _ rfl).trans ?_) (fun o => (hga.fr _ _ h.2.2.2).trans (h.2.2.1 o)) hsX h.2.2.2 (by simp)).floorEq (fun i hi => by rw [flj, if_neg (by omega)])
      obtain rfl | rfl | rfl : i = 0 ∨ i = 1 ∨ i = 2 := by omega
      all_goals rfl
    obtain ⟨sb, hsb⟩ : ∃ x, x = X.heap.size := ⟨_, rfl⟩
    obtain ⟨lb, hlb⟩ : ∃ x, x = w2.heap.size := ⟨_, rfl⟩
    rw [← hsb, ← hlb]
    clear HS2 hsb hlb HX hsX hvX hnX hbX
    intro Y hY
    have HY : Hid (St w Y B n g bb mb k ao m cp F l (flj f k seq 0) gb sb lb) := hY
    clear hY
    go_loopw [10, 11, 61] (fun hv lv jv wr => ∃ j : Nat, j ≤ 3 ∧ (∃ x : Int, hv = .int .u64 x) ∧ lv = .bool false ∧ jv = .int .u8 j ∧ St w wr B n g bb mb k ao m cp F l (flj f k seq 0) gb sb lb) (fun _ _ jv _ => 3 - (intOf jv).toNat)
    case atStart => exact ⟨0, by decide, ⟨0, rfl⟩, rfl, rfl, HY.out⟩
    case round =>
      clear HY
      obtain ⟨j, hj, ⟨hi, rfl⟩, rfl, rfl, hY⟩ := hrel
      have HY : Hid (St w wr B n g bb mb k ao m cp F l (flj f k seq 0) gb sb lb) := hY
      by_cases hj3 : j < 3
      · have x1 := hY.sd j hj3
        have x2 := hY.last j hj3
        rw [Nat.zero_add] at x1 x2
        have hi1 : (0 : Int) ≤ (j : Int) := by omega
        have hi2 : (j : Int) < 3 := by omega
        have hlj : ¬ l j < 0 := by have := HL0.out j hj3; omega
        have hld : decide (l j < 0) = false := decide_eq_false hlj
        clear hY
        go_wp2
        go_quiet (fail)
        go_wp2
        go_roundw
        case rel => exact ⟨j + 1, by omega, ⟨_, rfl⟩, by simp, by go_num, HY.out.drewN _⟩
        case measure => simp [intOf]; omega
      · obtain rfl : j = 3 := by omega
        clear hY
        rw [show ((3 : Nat) : Int) = 3 from rfl]
        go_wp2
        go_loopw [115] (fun jv wr => ∃ j : Nat, j ≤ 3 ∧ jv = .int .u8 j ∧ St w wr B n g bb mb k ao m cp F l (flj f k seq j) gb sb lb) (fun jv _ => 3 - (intOf jv).toNat)
        case atStart => exact ⟨0, by decide, rfl, HY.out⟩
        case round =>
          clear HY
          obtain ⟨j, hj, rfl, hin⟩ := hrel
          have HIN : Hid (St w wr B n g bb mb k ao m cp F l (flj f k seq j) gb sb lb) := hin
          by_cases hj3 : j < 3
          · by_cases hjk : j = k
            · have HNX : Hid (St w wr B n g bb mb k ao m cp F l (flj f k seq (j + 1)) gb sb lb) := hin.floorEq (fun i hi => by
                by_cases e : i < j ∧ i ≠ k
                · rw [flj, flj, if_pos e, if_pos (by omega)]
                · rw [flj, flj, if_neg e, if_neg (by omega)])
              clear hin
              subst hjk
              go_wp2
              go_roundw
              case rel => exact ⟨j + 1, by omega, by go_num, HNX.out⟩
              case measure => simp [intOf]; omega
            · have x1 := hin.sd j hj3
              have x2 := hin.last j hj3
              rw [Nat.zero_add] at x1 x2
              have hi1 : (0 : Int) ≤ (j : Int) := by omega
              have hi2 : (j : Int) < 3 := by omega
              have hjk1 : ((j : Int) == (k : Int)) = false := by simp; omega
              have hl' : decide (l j < 0) = false := decide_eq_false (by have := HL0.out j hj3; omega)
              have q1 : sb < wr.heap.size := by have := hin.sz; have := hin.ord.s2; omega
              have q2 : lb < wr.heap.size := hin.sz
              clear hin
              go_wp2
              go_region_held3 (fun x => x.cell? ⟨sb, j, none⟩ = some (.int .u64 0) ∧ x.cell? ⟨lb, j, none⟩ = some (.int .u64 (l j))) (go_keep) (fail)
              refine absW (fun V => St w V B n g bb mb k ao m cp F l (flj f k seq j) gb sb lb) (HIN.out.grew ((Grew.alloc wr _).trans (Grew.drewN _ 1))) ?_
              clear HIN x1 x2
              intro V hin
              have HIN : Hid (St w V B n g bb mb k ao m cp F l (flj f k seq j) gb sb lb) := hin
              have x3 := hin.floor j hj3
              have x4 := hin.sd j hj3
              rw [Nat.zero_add] at x3 x4
              rw [show flj f k seq j j = f j from if_neg (by omega)] at x3
              have f3 := hin.fr bb j (.inl rfl)
              have f4 := hin.fr sb j (.inr (.inl rfl))
              have nbs : ¬ bb = sb := by have := hin.ord.b1; have := hin.ord.s1; omega
              have nsb : ¬ sb = bb := by omega
              have HNX : Hid (∀ x, x = mx (f j) seq → St w (((V.setCell ⟨bb, j, none⟩ (.int .u64 x)).setCell ⟨sb, j, none⟩ (.int .u64 0)).drewN 1) B n g bb mb k ao m cp F l (flj f k seq (j + 1)) gb sb lb) := fun x hx => by
                refine (((hin.setF j hj3 x).setS j hj3).drewN 1).floorEq (fun i hi => ?_)
                by_cases e : i = j
                · subst e
                  rw [if_pos rfl, hx, flj, if_pos ⟨by omega, hjk⟩]
                · rw [if_neg e]
                  by_cases e2 : i < j ∧ i ≠ k
                  · rw [flj, flj, if_pos e2, if_pos (by omega)]
                  · rw [flj, flj, if_neg e2, if_neg (by omega)]
              clear hin
              by_cases hfs : f j < seq
              · have HMX : Hid (seq = mx (f j) seq) := by show _ = _; rw [mx, if_pos hfs]
                go_wp2
                go_region
                refine absW (fun V => St w V B n g bb mb k ao m cp F l (flj f k seq (j + 1)) gb sb lb) (HNX.out _ HMX.out) ?_
                clear HIN x3 x4 f3 f4 HNX
                intro V' hN
                have HNX : Hid (St w V' B n g bb mb k ao m cp F l (flj f k seq (j + 1)) gb sb lb) := hN
                clear hN
                go_wp2
                go_roundw
                case rel => exact ⟨j + 1, by omega, by go_num, HNX.out⟩
                case measure => simp [intOf]; omega
              · have HMX : Hid (f j = mx (f j) seq) := by show _ = _; rw [mx, if_neg hfs]
                go_wp2
                go_region
                refine absW (fun V => St w V B n g bb mb k ao m cp F l (flj f k seq (j + 1)) gb sb lb) (HNX.out _ HMX.out) ?_
                clear HIN x3 x4 f3 f4 HNX
                intro V' hN
                have HNX : Hid (St w V' B n g bb mb k ao m cp F l (flj f k seq (j + 1)) gb sb lb) := hN
                clear hN
                go_wp2
                go_roundw
                case rel => exact ⟨j + 1, by omega, by go_num, HNX.out⟩
                case measure => simp [intOf]; omega
          · obtain rfl : j = 3 := by omega
            have s0 := hin.sd 0 (by decide)
            have s1 := hin.sd 1 (by decide)
            have s2 := hin.sd 2 (by decide)
            simp only [Nat.zero_add] at s0 s1 s2
            have z0 := hin.said (k * 3) (by omega)
            have z1 := hin.said (k * 3 + 1) (by omega)
            have z2 := hin.said (k * 3 + 2) (by omega)
            simp only [← Nat.add_assoc] at z1 z2
            have fb := fun o => hin.fr bb o (.inl rfl)
            have nbs : ¬ bb = sb := by have := hin.ord.b1; have := hin.ord.s1; omega
            have nsb : ¬ sb = bb := by omega
            have HNX : Hid (St w ((((wr.setCell ⟨bb, 6 + k * 3, none⟩ (.int .u64 0)).setCell ⟨bb, 6 + k * 3 + 1, none⟩ (.int .u64 0)).setCell ⟨bb, 6 + k * 3 + 2, none⟩ (.int .u64 0)).drewN 1) B n g bb mb k ao m cp F l (flj f k seq 3) gb sb lb) :=
              (((hin.setSaid (k * 3) (by omega)).setSaid (k * 3 + 1) (by omega)).setSaid (k * 3 + 2) (by omega)).drewN 1
            clear hin
            go_wp2
            go_region_held3 (fun x => x.cell? ⟨sb, 0, none⟩ = some (.int .u64 0) ∧ x.cell? ⟨sb, 1, none⟩ = some (.int .u64 0) ∧ x.cell? ⟨sb, 2, none⟩ = some (.int .u64 0)) (go_keep) (fail)
            refine absW (fun V => St w V B n g bb mb k ao m cp F l (flj f k seq 3) gb sb lb) HNX.out ?_
            clear HIN HNX s0 s1 s2 z0 z1 z2 fb
            intro V hP
            have HP : Hid (St w V B n g bb mb k ao m cp F l (flj f k seq 3) gb sb lb) := hP
            have h64 := hP.gap
            have f64 := hP.fr (n + 7) 64 (.inr (.inr rfl))
            have hLk := hP.last k hk
            rw [Nat.zero_add] at hLk
            have HGAPS : Hid (GapsAt V.drew g ao m cp F) := hP.gaps.keep' (fun _ _ => rfl) (fun _ _ => rfl)
            have HAO : Hid (ao ≠ none → B ≤ g ∧ g ≠ bb) := fun h => ⟨(hP.ord.g1 h).1, (hP.ord.g1 h).2.2.1⟩
            have HB1 : Hid (B ≤ bb) := hP.ord.B1
            have HB3 : Hid (B ≤ mb) := hP.ord.B3
            have HGK : Hid (V.drew.cell? ⟨bb, 3 + k, none⟩ = some (.slice ao m cp)) := hP.gapk
            have HFK : Hid (V.drew.cell? ⟨bb, k, none⟩ = some (.int .u64 (f k))) := by have := hP.floor k hk; rw [Nat.zero_add, show flj f k seq 3 k = f k from if_neg (by omega)] at this; exact this
            have HFB : Hid (∀ o, V.drew.frozen? ⟨bb, o, none⟩ = false) := fun o => hP.fr bb o (.inl rfl)
            have HN64 : Hid (¬ Sc ao g bb k (n + 7) 64) := fun h => by
              rcases h with ⟨h1, h2⟩ | ⟨h1, _⟩
              · exact (hP.ord.g1 h1).2.2.2.1 h2.symm
              · exact hP.ord.n1 h1.symm
            have HNL : Hid (¬ Sc ao g bb k lb k) := fun h => by
              have := hP.ord.s1; have := hP.ord.s2; have := hP.ord.b1
              rcases h with ⟨h1, h2⟩ | ⟨h1, _⟩
              · have := (hP.ord.g1 h1).2.1; omega
              · omega
            have hnV : n + 7 < V.heap.size := by have := hP.bel.size; have := hP.ord.b2; omega
            have hlV : lb < V.heap.size := hP.sz
            have HEND : Hid (∀ w3 c L, Closed V.drew w3 B g bb k ao m cp c F (f k) L → Shut w (w3.setCell ⟨n + 7, 64, none⟩ (.int .i64 (IntKind.i64.wrap (gb - IntKind.i64.wrap (16 * c))))) B n g bb mb k ao m cp c F f gb seq L) := fun w3 c L h => (hP.drewN 1).shut hk h
            clear hP
            have HMP : Hid (l k < seq → mx (l k) seq = seq) := fun h => if_pos h
            by_cases hmx : l k < seq
            all_goals
              go_wp2
              go_region_with (go_at_call 12; refine (closeGaps_any B g bb k hk _ (f k) ao m cp F V.drew HGAPS.out HAO.out HB1.out hm HGK.out HFK.out HFB.out).mono ?_; rintro e w3 ⟨c, rfl, hC⟩; have d64 := (hC.chg.same (n + 7) 64 hnV HN64.out).trans h64; have e64 := (hC.chg.fr (n + 7) 64 hnV).trans f64; have dL := (hC.chg.same lb k hlV HNL.out).trans hLk)
              all_goals
                refine absW (fun V => Shut w V B n g bb mb k ao m cp c F f gb seq (mx (l k) seq)) (by first | exact HEND.out w3 c (mx (l k) seq) hC | (rw [HMP.out hmx]; exact HEND.out w3 c _ hC)) ?_
                clear HP hC d64 e64 dL h64 f64 hLk HGAPS HAO HB1 HGK HFK HFB HN64 HNL HEND HMP
                intro V2 hP2
                have HP : Hid (Shut w V2 B n g bb mb k ao m cp c F f gb seq (mx (l k) seq)) := hP2
                have hobj := hP2.obj
                have h63 := hP2.map
                have HQ := hP2.quiet hk
                clear hP2
                by_cases hcm : c = m
                · subst hcm
                  rw [decide_eq_true rfl] at HQ
                  go_wp2_with fail
                  refine HQ.mono ?_
                  rintro e w4 ⟨rfl, rfl⟩
                  clear HQ
                  go_wp2_with (refine wpList_del1 rfl (.tmp 210) (.tmp 211) rfl mb 1 (.pointer (some ⟨bb, 0, none⟩)) rfl rfl hobj ?_)
                  go_end0
                  exact ⟨rfl, c, HP.out.del HB3.out⟩
                · rw [decide_eq_false hcm] at HQ
                  go_wp2_with fail
                  refine HQ.mono ?_
                  rintro e w4 ⟨rfl, rfl⟩
                  clear HQ
                  go_wp2
                  go_end0
                  exact ⟨rfl, c, HP.out.tookc hcm⟩
end Go.Proofs.YbulkdeduDoor

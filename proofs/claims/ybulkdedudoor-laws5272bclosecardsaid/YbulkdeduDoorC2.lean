import Derived.Test.YbulkdeduDoorC1
namespace Go.Proofs.YbulkdeduDoor
open Go.RowKit

/-- m gaps in memory: the slice's address is none, or the block g's begin; its numbers are F's -/
structure GapsAt (W : World) (g : Nat) (ao : Option Addr) (m cp : Nat) (F : Nat → Int) : Prop where
  le : m ≤ cp
  nil : ao = none → m = 0 ∧ cp = 0
  at' : ∀ a, ao = some a → a = ⟨g, 0, none⟩
  cell : ∀ j, j < 2 * m → W.cell? ⟨g, j, none⟩ = some (.int .u64 (F j))
  fr : ∀ j, j < 2 * m → W.frozen? ⟨g, j, none⟩ = false
theorem GapsAt.keep {W V : World} {g : Nat} {ao : Option Addr} {m cp : Nat} {F : Nat → Int} (h : GapsAt W g ao m cp F) (hc : ∀ j, V.cell? ⟨g, j, none⟩ = W.cell? ⟨g, j, none⟩) (hf : ∀ j, V.frozen? ⟨g, j, none⟩ = W.frozen? ⟨g, j, none⟩) : GapsAt V g ao m cp F :=
  ⟨h.le, h.nil, h.at', fun j hj => (hc j).trans (h.cell j hj), fun j hj => (hf j).trans (h.fr j hj)⟩

/-- the first c gaps close at L, no more -/
def IsC (F : Nat → Int) (L : Int) (m c : Nat) : Prop := c ≤ m ∧ (∀ i, i < c → F (2 * i) ≤ L) ∧ (c < m → ¬ F (2 * c) ≤ L)
theorem IsC.unique {F : Nat → Int} {L : Int} {m c d : Nat} (h : IsC F L m c) (k : IsC F L m d) : c = d := by
  rcases Nat.lt_trichotomy c d with h1 | h1 | h1
  · exact absurd (k.2.1 c h1) (h.2.2 (by have := k.1; omega))
  · exact h1
  · exact absurd (h.2.1 d h1) (k.2.2 (by have := h.1; omega))
/-- the floor behind the first c gaps -/
def flC (F : Nat → Int) (f : Int) : Nat → Int
  | 0 => f
  | i + 1 => if flC F f i < F (2 * i + 1) then F (2 * i + 1) else flC F f i

/-- what closeGaps writes -/
def Sc (ao : Option Addr) (g bb k : Nat) (b o : Nat) : Prop := (ao ≠ none ∧ b = g) ∨ (b = bb ∧ (o = k ∨ o = 3 + k))

structure Closed (w w' : World) (B g bb k : Nat) (ao : Option Addr) (m cp c : Nat) (F : Nat → Int) (f L : Int) : Prop where
  isC : IsC F L m c
  floor : w'.cell? ⟨bb, k, none⟩ = some (.int .u64 (flC F f c))
  gaps : w'.cell? ⟨bb, 3 + k, none⟩ = some (.slice ao (m - c) cp)
  cells : ∀ j, j < 2 * (m - c) → w'.cell? ⟨g, j, none⟩ = some (.int .u64 (F (2 * c + j)))
  chg : Chg w w' B (Sc ao g bb k)

set_option maxRecDepth 100000 in
theorem delete_zero (ad : Addr) (n c : Nat) (w : World) (hn : n ≤ c) :
    Calls Ybad.prog 20 #[.slice (some ad) n c, .int .i64 0, .int .i64 0] w fun e w' => e = .returned (.slice (some ad) n c) ∧ w' = w := by
  go_enter Ybad.func20, Ybad.ntmps20
  go_wp2
  go_ret
  exact ⟨rfl, rfl⟩

theorem delete_any (g m cp c : Nat) (F : Nat → Int) (w : World) (hcm : c ≤ m) (hm : m ≤ cp) (hcell : ∀ j, j < 2 * m → w.cell? ⟨g, j, none⟩ = some (.int .u64 (F j))) (hfr : ∀ j, j < 2 * m → w.frozen? ⟨g, j, none⟩ = false) :
    Calls Ybad.prog 20 #[.slice (some ⟨g, 0, none⟩) m cp, .int .i64 0, .int .i64 c] w fun e w' => e = .returned (.slice (some ⟨g, 0, none⟩) (m - c) cp) ∧ (∀ j, j < 2 * (m - c) → w'.cell? ⟨g, j, none⟩ = some (.int .u64 (F (2 * c + j)))) ∧ Chg w w' (min g w.heap.size) (fun b _ => b = g) := by
  by_cases hc0 : c = 0
  · subst hc0
    refine (delete_zero ⟨g, 0, none⟩ m cp w hm).mono ?_
    rintro e w' ⟨rfl, rfl⟩
    exact ⟨rfl, fun j hj => by rw [Nat.mul_zero, Nat.zero_add]; exact hcell j hj, Chg.refl _ (Nat.min_le_right _ _) _⟩
  · refine (delete_some g m cp c F w (by omega) hcm hm hcell hfr).mono ?_
    rintro e w' ⟨rfl, h1, h2⟩
    exact ⟨rfl, h1, ⟨h2.same, h2.fr, h2.bel.mono (Nat.min_le_left _ _), h2.objs⟩⟩

set_option maxRecDepth 100000 in
set_option maxHeartbeats 2000000 in
theorem closeGaps_any (B g bb k : Nat) (hk : k < 3) (L f : Int) (ao : Option Addr) (m cp : Nat) (F : Nat → Int) (w : World) (hG : GapsAt w g ao m cp F) (hao : ao ≠ none → B ≤ g ∧ g ≠ bb) (hB2 : B ≤ bb) (hm : m ≤ 512)
    (c0 : w.cell? ⟨bb, 3 + k, none⟩ = some (.slice ao m cp)) (c1 : w.cell? ⟨bb, k, none⟩ = some (.int .u64 f)) (fr : ∀ o, w.frozen? ⟨bb, o, none⟩ = false) :
    Calls Ybad.prog 12 #[.pointer (some ⟨bb, 0, none⟩), .int .u8 k, .int .u64 L] w fun e w' => ∃ c : Nat, e = .returned (.int .i64 c) ∧ Closed w w' B g bb k ao m cp c F f L := by
  have hj1 : (0 : Int) ≤ (k : Int) := by omega
  have hj2 : (k : Int) < 3 := by omega
  have hb : bb < w.heap.size := World.block_lt_of_cell? (a := ⟨bb, 3 + k, none⟩) _ c0
  cases ao with
  | none =>
    obtain ⟨rfl, rfl⟩ := hG.nil rfl
    refine (closeGaps_nil bb k hk L w c0 (fr _)).mono ?_
    rintro e w' ⟨rfl, hC, h3⟩
    refine ⟨0, rfl, ⟨by omega, fun i hi => by omega, fun h => by omega⟩, ?_, h3, fun j hj => by omega, ?_⟩
    · rw [hC.same bb k hb (by omega)]; exact c1
    · exact ⟨fun b o hb' hn => hC.same b o hb' (fun h => hn (Or.inr ⟨h.1, Or.inr h.2⟩)), hC.fr, hC.bel.mono hB2, fun b hb' hn => hC.objs b hb' (fun o h => hn o (Or.inr ⟨h.1, Or.inr h.2⟩))⟩
  | some a =>
    obtain rfl : a = ⟨g, 0, none⟩ := hG.at' a rfl
    obtain ⟨hB1, hne⟩ := hao (by simp)
    have hnn : g ≠ bb := hne
    clear hao
    have HG : Hid (GapsAt w g (some ⟨g, 0, none⟩) m cp F) := hG
    have hle := hG.le
    have HFR : Hid (∀ o, w.frozen? ⟨bb, o, none⟩ = false) := fr
    have HC1 : Hid (w.cell? ⟨bb, k, none⟩ = some (.int .u64 f)) := c1
    have HC0 : Hid (w.cell? ⟨bb, 3 + k, none⟩ = some (.slice (some ⟨g, 0, none⟩) m cp)) := c0
    clear hG fr c1
    go_enter Ybad.func12, Ybad.ntmps12
    go_wp2
    clear c0
    go_loopw [8] (fun nv wr => ∃ c : Nat, c ≤ m ∧ nv = .int .i64 c ∧ (∀ i, i < c → F (2 * i) ≤ L) ∧ wr.cell? ⟨bb, k, none⟩ = some (.int .u64 (flC F f c)) ∧ Chg w wr bb (fun b o => b = bb ∧ o = k)) (fun nv _ => m - (intOf nv).toNat)
    case atStart => exact ⟨0, by omega, rfl, fun i hi => by omega, HC1.out, Chg.refl w (by omega) _⟩
    case round =>
      obtain ⟨c, hc, rfl, hall, hfl, hC⟩ := hrel
      have HALL : Hid (∀ i, i < c → F (2 * i) ≤ L) := hall
      have HC : Hid (Chg w wr bb (fun b o => b = bb ∧ o = k)) := hC
      have frk := (hC.fr bb k hb).trans (HFR.out k)
      obtain ⟨fc, hfc⟩ : ∃ x, x = flC F f c := ⟨_, rfl⟩
      have HFC : Hid (fc = flC F f c) := hfc
      rw [← hfc] at hfl
      have HFL : Hid (wr.cell? ⟨bb, k, none⟩ = some (.int .u64 fc)) := hfl
      clear hfc hall
      have HCELL : Hid (∀ j, j < 2 * m → wr.cell? ⟨g, j, none⟩ = some (.int .u64 (F j))) := fun j hj => by
        have hh := HG.out.cell j hj
        rw [hC.same g j (World.block_lt_of_cell? (a := ⟨g, j, none⟩) _ hh) (fun h => hne h.1)]; exact hh
      have HCFR : Hid (∀ j, j < 2 * m → wr.frozen? ⟨g, j, none⟩ = false) := fun j hj => by
        have hh := HG.out.cell j hj
        rw [hC.fr g j (World.block_lt_of_cell? (a := ⟨g, j, none⟩) _ hh)]; exact HG.out.fr j hj
      by_cases hgo : c < m ∧ F (2 * c) ≤ L
      · obtain ⟨hcm, hAL⟩ := hgo
        have x1 : wr.cell? ⟨g, c * 2, none⟩ = some (.int .u64 (F (2 * c))) := by rw [Nat.mul_comm]; exact HCELL.out (2 * c) (by omega)
        have x2 : wr.cell? ⟨g, c * 2 + 1, none⟩ = some (.int .u64 (F (2 * c + 1))) := by rw [Nat.mul_comm]; exact HCELL.out (2 * c + 1) (by omega)
        have HN : Hid (∀ i, i < c + 1 → F (2 * i) ≤ L) := fun i hi => by
          by_cases e : i = c
          · subst e; exact hAL
          · exact HALL.out i (by omega)
        obtain ⟨A, hA⟩ : ∃ x, x = F (2 * c) := ⟨_, rfl⟩
        obtain ⟨U, hU⟩ : ∃ x, x = F (2 * c + 1) := ⟨_, rfl⟩
        have HU : Hid (U = F (2 * c + 1)) := hU
        rw [← hA] at x1 hAL
        rw [← hU] at x2
        have hcm1 : (c : Int) < (m : Int) := by omega
        clear hA hU hC
        by_cases hfU : fc < U
        · have HF2 : Hid (flC F f (c + 1) = U) := by show _ = _; rw [flC, ← HFC.out, ← HU.out, if_pos hfU]
          go_wp2
          go_region
          go_wp2
          go_roundw
          case rel => exact ⟨c + 1, by omega, by go_num, HN.out, by rw [HF2.out]; exact World.cell?_setCell_same _ _ _ hfl, (HC.out.set (Nat.le_refl _) ⟨rfl, rfl⟩ _).drewN _⟩
          case measure => simp [intOf]; omega
        · have HF2 : Hid (flC F f (c + 1) = fc) := by show _ = _; rw [flC, ← HFC.out, ← HU.out, if_neg hfU]
          go_wp2
          go_region
          go_wp2
          go_roundw
          case rel => exact ⟨c + 1, by omega, by go_num, HN.out, by rw [HF2.out]; exact World.cell?_setCell_same _ _ _ hfl, (HC.out.set (Nat.le_refl _) ⟨rfl, rfl⟩ _).drewN _⟩
          case measure => simp [intOf]; omega
      · have HIS : Hid (IsC F L m c) := ⟨hc, HALL.out, fun h1 h2 => hgo ⟨h1, h2⟩⟩
        have k3 := (hC.same bb (3 + k) hb (by omega)).trans HC0.out
        have k4 := (hC.fr bb (3 + k) hb).trans (HFR.out (3 + k))
        have HOUT : Hid ((∃ x : Int, wr.cell? ⟨g, c * 2, none⟩ = some (.int .u64 x) ∧ ¬ x ≤ L ∧ (c : Int) < m ∧ c < m) ∨ c = m) := by
          by_cases h1 : c < m
          · exact .inl ⟨F (2 * c), by rw [Nat.mul_comm]; exact HCELL.out (2 * c) (by omega), fun h => hgo ⟨h1, h⟩, by omega, h1⟩
          · exact .inr (by omega)
        clear hgo hfl frk hC
        have HD : Hid (∀ w2, Chg wr w2 (min g wr.heap.size) (fun b _ => b = g) → (∀ j, j < 2 * (m - c) → w2.cell? ⟨g, j, none⟩ = some (.int .u64 (F (2 * c + j)))) → Closed w (w2.setCell ⟨bb, 3 + k, none⟩ (.slice (some ⟨g, 0, none⟩) (m - c) cp)) B g bb k (some ⟨g, 0, none⟩) m cp c F f L) := fun w2 h1 h2 => by
          have hb2 : bb < wr.heap.size := Nat.lt_of_lt_of_le hb HC.out.bel.size
          have e1 : w2.cell? ⟨bb, k, none⟩ = some (.int .u64 fc) := (h1.same bb k hb2 (fun h => hne h.symm)).trans HFL.out
          have e2 : w2.cell? ⟨bb, 3 + k, none⟩ = some (.slice (some ⟨g, 0, none⟩) m cp) := (h1.same bb (3 + k) hb2 (fun h => hne h.symm)).trans k3
          refine ⟨HIS.out, ?_, World.cell?_setCell_same _ _ _ e2, fun j hj => ?_, ?_⟩
          · rw [World.cell?_setCell_other _ _ _ _ (by intro e; injection e with _ e1; omega), e1, HFC.out]
          · rw [World.cell?_setCell_other _ _ _ _ (by intro e; injection e with e1; exact hne e1.symm)]; exact h2 j hj
          · have q1 : Chg w wr B (Sc (some ⟨g, 0, none⟩) g bb k) := ⟨fun b o hb' hn => HC.out.same b o hb' (fun h => hn (Or.inr ⟨h.1, Or.inl h.2⟩)), HC.out.fr, HC.out.bel.mono hB2, fun b hb' hn => HC.out.objs b hb' (fun o h => hn o (Or.inr ⟨h.1, Or.inl h.2⟩))⟩
            have q2 : Chg wr w2 B (Sc (some ⟨g, 0, none⟩) g bb k) := ⟨fun b o hb' hn => h1.same b o hb' (fun h => hn (Or.inl ⟨by simp, h⟩)), h1.fr, h1.bel.mono (by omega), fun b hb' hn => h1.objs b hb' (fun o h => hn o (Or.inl ⟨by simp, h⟩))⟩
            exact (q1.trans q2).set hB2 (Or.inr ⟨rfl, Or.inr rfl⟩) _
        have HK : Hid (∀ w2, Chg wr w2 (min g wr.heap.size) (fun b _ => b = g) → w2.cell? ⟨bb, 3 + k, none⟩ = some (.slice (some ⟨g, 0, none⟩) m cp) ∧ w2.frozen? ⟨bb, 3 + k, none⟩ = false) := fun w2 h1 => by
          have hb2 : bb < wr.heap.size := Nat.lt_of_lt_of_le hb HC.out.bel.size
          exact ⟨(h1.same bb (3 + k) hb2 (fun h => hne h.symm)).trans k3, (h1.fr bb (3 + k) hb2).trans k4⟩
        have HDR : Hid (∀ w2, Chg wr.drew w2 (min g wr.drew.heap.size) (fun b _ => b = g) → Chg wr w2 (min g wr.heap.size) (fun b _ => b = g)) := fun w2 h => Chg.trans ((Chg.refl wr (Nat.min_le_right _ _) _).drewN 1) h
        clear k3 k4
        rcases HOUT.out with ⟨x, x1, x2, x3, x4⟩ | rfl
        · clear HOUT
          go_wp2
          go_region_with (go_at_call 20; refine (delete_any g m cp c F wr.drew hc hle HCELL.out HCFR.out).mono ?_; rintro e w2 ⟨rfl, h1, h2⟩; have h3 := HDR.out w2 h2; have k3 := (HK.out w2 h3).1; have k4 := (HK.out w2 h3).2)
          refine absW (fun V => Closed w V B g bb k (some ⟨g, 0, none⟩) m cp c F f L) (HD.out w2 h3 h1) ?_
          clear h1 h2 h3 k3 k4
          intro V hV
          have HV : Hid (Closed w V B g bb k (some ⟨g, 0, none⟩) m cp c F f L) := hV
          clear hV
          go_wp2
          go_ret
          exact ⟨c, rfl, HV.out⟩
        · clear HOUT
          go_wp2
          go_region_with (go_at_call 20; refine (delete_any g c cp c F wr.drew hc hle HCELL.out HCFR.out).mono ?_; rintro e w2 ⟨rfl, h1, h2⟩; have h3 := HDR.out w2 h2; have k3 := (HK.out w2 h3).1; have k4 := (HK.out w2 h3).2)
          refine absW (fun V => Closed w V B g bb k (some ⟨g, 0, none⟩) c cp c F f L) (by have := HD.out w2 h3 h1; rw [Nat.sub_self] at this; exact this) ?_
          clear h1 h2 h3 k3 k4
          intro V hV
          have HV : Hid (Closed w V B g bb k (some ⟨g, 0, none⟩) c cp c F f L) := hV
          clear hV
          go_wp2
          go_ret
          exact ⟨c, rfl, HV.out⟩
end Go.Proofs.YbulkdeduDoor

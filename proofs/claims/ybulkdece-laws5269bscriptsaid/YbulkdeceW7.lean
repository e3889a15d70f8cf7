import Derived.Test.YbulkdeceW6
namespace Go.Proofs.Ybulkdece
open Go.RowKit Plain

theorem Plain.Inv.at_held {m n : Nat} {V : Nat → E} {A : Nat → Int} {held : Nat → Bool} {ts rs : Nat → Int} (hI : Inv m n V A held ts rs) {i : Nat} (hi : i < m) (hh : held i = true) :
    ∃ j : Nat, j < n ∧ A i = j ∧ (V j).t = ts i ∧ (V j).r = rs i ∧ (V j).s = i := by
  obtain ⟨j, hj, hA, hs⟩ := hI.rep.2.2.2 i hi hh
  obtain ⟨x, _, hxs, _, _, hxt, hxr⟩ := hI.rep.2.1 j hj
  have : x = i := by omega
  subst this
  exact ⟨j, hj, hA, hxt, hxr, hs⟩

set_option maxRecDepth 100000 in
set_option maxHeartbeats 1000000 in
theorem check_any (qb hb ab eb tb rb m n : Nat) (h : Nat → E) (A : Nat → Int) (held : Nat → Bool) (ts rs : Nat → Int) (w : World) (hm : m ≤ 16)
    (hQ : QW w qb hb ab m n h A) (hM : MW w eb tb rb m held ts rs) (hI : Inv m n h A held ts rs) :
    Calls Yba.prog 8 #[.pointer (some ⟨qb, 0, none⟩), .slice (some ⟨eb, 0, none⟩) m m, .slice (some ⟨tb, 0, none⟩) m m, .slice (some ⟨rb, 0, none⟩) m m] w fun e w' =>
      e = .returned (.bool true) ∧ Only [] w w' := by
  have HQ : Hid (QW w qb hb ab m n h A) := hQ
  have HM : Hid (MW w eb tb rb m held ts rs) := hM
  have HI : Hid (Inv m n h A held ts rs) := hI
  have qa := hQ.qa
  have hnm := hI.rep.1
  have HN : Hid (n = cnt held m) := hI.num
  clear hQ hM hI
  go_enter Yba.func8, Yba.ntmps8
  go_wp2
  go_loopw [10, 11] (fun cv iv wr => ∃ (k c : Nat), k ≤ m ∧ c ≤ k ∧ c = cnt held k ∧ cv = .int .i64 c ∧ iv = .int .i64 k ∧ Only [] w wr)
    (fun _ iv _ => m - (intOf iv).toNat)
  case atStart => exact ⟨0, 0, Nat.zero_le _, Nat.le_refl _, rfl, rfl, rfl, Only.refl _ _⟩
  case round =>
    clear qa
    obtain ⟨k, c, hk, hck, hc, rfl, rfl, hO⟩ := hrel
    have hQ := HQ.out.only hO (by simp) (by simp) (by simp)
    have hM := HM.out.only hO (by simp) (by simp) (by simp)
    have qa := hQ.qa
    have qh := hQ.qh
    have HC : Hid (c = cnt held k) := hc
    have HO : Hid (Only [] w wr) := hO
    have hcle : c ≤ 16 := by omega
    clear hc hO
    by_cases hlt : k < m
    · have m1 := hM.hc k hlt
      have a1 := hQ.ac k hlt
      cases hh : held k with
      | false =>
        have hA := HI.out.rep.2.2.1 k hlt hh
        rw [hh] at m1
        rw [hA] at a1
        have HC' : Hid (c = cnt held (k + 1)) := by show c = cnt held k + _; rw [hh]; simpa using HC.out
        clear hQ hM hA hh
        go_wp2
        go_roundw
        case rel => exact ⟨k + 1, c, by omega, by omega, HC'.out, rfl, by go_num, HO.out⟩
        case measure => simp [intOf]; omega
      | true =>
        obtain ⟨j, hjn, hA, ht, hr, hs⟩ := HI.out.at_held hlt hh
        rw [hh] at m1
        rw [hA] at a1
        have m2 := hM.tc k hlt
        have m3 := hM.rc k hlt
        have d0 := hQ.ht j (by omega)
        have d1 := hQ.hr j (by omega)
        have d2 := hQ.hs j (by omega)
        rw [ht] at d0
        rw [hr] at d1
        rw [hs] at d2
        have HC' : Hid (c + 1 = cnt held (k + 1)) := by show c + 1 = cnt held k + _; rw [hh, HC.out]; simp
        have hjf : decide ((j : Int) < 0) = false := decide_eq_false (by omega)
        have hle := hM.le
        have hlt2 := hM.lt
        have hlr := hM.lr
        clear hQ hM hA hh ht hr hs
        go_wp2
        go_quiet (fail)
        refine absW (fun W => Only [] w W) (HO.out.trans (((Only.refl [] wr).alloc _).drewN _)) ?_
        clear HO m1 a1 m2 m3 d0 d1 d2 qa qh
        intro W2 hO2
        have HO2 : Hid (Only [] w W2) := hO2
        clear hO2
        go_wp2
        go_roundw
        case rel => exact ⟨k + 1, c + 1, by omega, by omega, HC'.out, by go_num, by go_num, HO2.out⟩
        case measure => simp [intOf]; omega
    · have hkm : k = m := by omega
      subst hkm
      have hcn : c = n := by rw [HC.out, HN.out]
      subst hcn
      clear hQ hM
      go_wp2
      go_loopw [14] (fun kv wr => ∃ k2 : Nat, 1 ≤ k2 ∧ (k2 ≤ c ∨ k2 = 1) ∧ kv = .int .i64 k2 ∧ Only [] w wr) (fun kv _ => c - (intOf kv).toNat)
      case atStart => exact ⟨1, by omega, .inr rfl, rfl, HO.out⟩
      case round =>
        clear qa qh HO
        obtain ⟨k2, h1, h2, rfl, hO⟩ := hrel
        have hQ := HQ.out.only hO (by simp) (by simp) (by simp)
        have qh := hQ.qh
        have HO : Hid (Only [] w wr) := hO
        by_cases hlt2 : k2 < c
        · obtain ⟨p, hp⟩ : ∃ p, p = (k2 - 1) / 2 := ⟨_, rfl⟩
          have hpi : ((k2 : Int) - 1) / 2 = p := by omega
          have hno := HI.out.ord k2 (by omega) hlt2
          rw [← hp] at hno
          have hpc : p < c := by omega
          obtain ⟨xt, xr, xs, hx⟩ : ∃ xt xr xs, h k2 = ⟨xt, xr, xs⟩ := ⟨_, _, _, rfl⟩
          obtain ⟨yt, yr, ys, hy⟩ : ∃ xt xr xs, h p = ⟨xt, xr, xs⟩ := ⟨_, _, _, rfl⟩
          rw [hx, hy] at hno
          have hl : ltB ⟨xt, xr, xs⟩ ⟨yt, yr, ys⟩ = false := ltB_false.2 hno
          have d0 := hQ.ht k2 (by omega)
          have d1 := hQ.hr k2 (by omega)
          have d2 := hQ.hs k2 (by omega)
          have g0 := hQ.ht p (by omega)
          have g1 := hQ.hr p (by omega)
          have g2 := hQ.hs p (by omega)
          rw [hx] at d0 d1 d2
          rw [hy] at g0 g1 g2
          have lh := hQ.lh
          have lq := hQ.lq
          clear hQ hO hno hx hy hp
          go_wp2_with (go_at_call 12; refine (less_any _ _ _ _ _ _ _).mono ?_; rintro e w' ⟨rfl, rfl⟩)
          go_roundw
          case rel => exact ⟨k2 + 1, by omega, .inl (by omega), by go_num, HO.out.trans (((Only.refl [] wr).alloc _).alloc _)⟩
          case measure => simp [intOf]; omega
        · have hM := HM.out.only hO (by simp) (by simp) (by simp)
          have HQ2 : Hid (QW wr qb hb ab k c h A) := hQ
          clear hQ hO
          go_wp2_with fail
          refine (min_any eb tb rb k held ts rs _ hm hM).mono ?_
          rintro e w2 ⟨best, rfl, hbest, d, rfl⟩
          have hfirst := first_any qb hb ab k c h A (wr.drewN d) hnm hm (HQ2.out.drewN d)
          clear hM
          by_cases h0 : c = 0
          · have hb0 := HI.out.none hbest h0
            subst hb0
            rw [if_pos h0] at hfirst
            clear hbest
            go_wp2_with fail
            refine hfirst.mono ?_
            rintro e w3 ⟨rfl, rfl⟩
            clear hfirst
            go_wp2
            go_ret
            exact ⟨rfl, HO.out.drewN _⟩
          · obtain ⟨b, rfl, hbm, hbh, hbs⟩ := HI.out.some hbest (by omega)
            rw [if_neg h0, hbs] at hfirst
            clear hbest hbs
            go_wp2_with fail
            refine hfirst.mono ?_
            rintro e w3 ⟨rfl, rfl⟩
            clear hfirst
            go_wp2
            go_ret
            exact ⟨rfl, HO.out.drewN _⟩
end Go.Proofs.Ybulkdece

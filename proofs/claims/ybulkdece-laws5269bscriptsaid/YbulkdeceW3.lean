import Derived.Test.YbulkdeceW2
namespace Go.Proofs.Ybulkdece
open Go.RowKit Plain

theorem upd_self {α : Type} (f : Nat → α) (k : Nat) (v : α) (h : f k = v) : upd f k v = f := by
  funext j; by_cases e : j = k
  · subst e; rw [upd_same, h]
  · rw [upd_other _ _ e]

set_option maxRecDepth 100000 in
set_option maxHeartbeats 1000000 in
theorem first_any (qb hb ab m n : Nat) (h : Nat → E) (A : Nat → Int) (w : World) (hnm : n ≤ m) (hm : m ≤ 16) (hQ : QW w qb hb ab m n h A) :
    Calls Yba.prog 10 #[.pointer (some ⟨qb, 0, none⟩)] w fun e w' =>
      e = .returned (if n = 0 then .tuple #[.int .i64 (-1), .bool false] else .tuple #[.int .i64 (h 0).s, .bool true]) ∧ w' = w := by
  have qh := hQ.qh
  by_cases h0 : n = 0
  · subst h0
    go_enter Yba.func10, Yba.ntmps10
    go_wp2
    go_ret2
    exact ⟨rfl, rfl⟩
  · have hb0 : ((n : Int) == 0) = false := by simp; omega
    have hs := hQ.hs 0 (by omega)
    have hn0 : 0 < n := by omega
    simp only [Nat.zero_mul, Nat.zero_add] at hs
    rw [if_neg h0]
    go_enter Yba.func10, Yba.ntmps10
    go_wp2
    go_ret2
    exact ⟨rfl, rfl⟩

set_option maxRecDepth 100000 in
set_option maxHeartbeats 1000000 in
theorem set_any (qb hb ab m n i : Nat) (t r : Int) (h : Nat → E) (A : Nat → Int) (held : Nat → Bool) (ts rs : Nat → Int) (w : World) (hm : m ≤ 16) (hi : i < m)
    (hQ : QW w qb hb ab m n h A) (hI : Inv m n h A held ts rs) :
    Calls Yba.prog 7 #[.pointer (some ⟨qb, 0, none⟩), .int .i64 i, .int .u64 t, .int .i64 r] w fun e w' =>
      e = .returned (.tuple #[]) ∧ ∃ n' h' A', QW w' qb hb ab m n' h' A' ∧ Inv m n' h' A' (upd held i true) (upd ts i t) (upd rs i r) ∧ Only [qb, hb, ab] w w' := by
  have qh := hQ.qh
  have qa := hQ.qa
  have ai := hQ.ac i hi
  have qf := hQ.qf
  have hnm := hI.rep.1
  cases hh : held i with
  | false =>
    have hA := hI.rep.2.2.1 i hi hh
    rw [hA] at ai
    obtain ⟨hlt, hR⟩ := hI.set_new hi hh t r
    have HR : Hid (Ready m (n + 1) n h A ⟨t, r, i⟩ i (upd held i true) (upd ts i t) (upd rs i r)) := hR
    have HQ : Hid (QW w qb hb ab m n h A) := hQ
    clear hA hh hI hR hQ
    go_enter Yba.func7, Yba.ntmps7
    go_wp2_with fail
    refine (place_any qb hb ab m (n + 1) n i h A t r _ _ _ _ hm (HQ.out.setN (n + 1)) HR.out).mono ?_
    rintro e w' ⟨rfl, h', A', hQ', hI', hO⟩
    have HQ' : Hid (QW w' qb hb ab m (n + 1) h' A') := hQ'
    have HI' : Hid (Inv m (n + 1) h' A' (upd held i true) (upd ts i t) (upd rs i r)) := hI'
    have HO : Hid (Only [qb, hb, ab] w w') := ((Only.refl [qb, hb, ab] w).setCell (.inl (by simp)) _).trans (hO.mono (by simp))
    clear hQ' hI' hO
    go_wp2
    go_end0
    exact ⟨rfl, n + 1, h', A', HQ'.out, HI'.out, HO.out⟩
  | true =>
    obtain ⟨k, hA, hkn, hR⟩ := hI.set_old hi hh t r
    rw [hA] at ai
    have HR : Hid (Ready m n k h A ⟨t, r, i⟩ i (upd held i true) (upd ts i t) (upd rs i r)) := hR
    have HQ : Hid (QW w qb hb ab m n h A) := hQ
    clear hA hh hI hR hQ
    go_enter Yba.func7, Yba.ntmps7
    go_wp2_with fail
    refine (place_any qb hb ab m n k i h A t r _ _ _ _ hm HQ.out HR.out).mono ?_
    rintro e w' ⟨rfl, h', A', hQ', hI', hO⟩
    have HQ' : Hid (QW w' qb hb ab m n h' A') := hQ'
    have HI' : Hid (Inv m n h' A' (upd held i true) (upd ts i t) (upd rs i r)) := hI'
    have HO : Hid (Only [qb, hb, ab] w w') := hO.mono (by simp)
    clear hQ' hI' hO
    go_wp2
    go_end0
    exact ⟨rfl, n, h', A', HQ'.out, HI'.out, HO.out⟩

theorem Inv.keep {m n : Nat} {V : Nat → E} {A : Nat → Int} {held : Nat → Bool} {ts rs : Nat → Int} (hI : Inv m n V A held ts rs) {i : Nat} (hh : held i = false) : Inv m n V A (upd held i false) ts rs := by
  rw [upd_self held i false hh]; exact hI

set_option maxRecDepth 100000 in
set_option maxHeartbeats 1000000 in
theorem remove_any (qb hb ab m n i : Nat) (h : Nat → E) (A : Nat → Int) (held : Nat → Bool) (ts rs : Nat → Int) (w : World) (hm : m ≤ 16) (hi : i < m)
    (hQ : QW w qb hb ab m n h A) (hI : Inv m n h A held ts rs) :
    Calls Yba.prog 6 #[.pointer (some ⟨qb, 0, none⟩), .int .i64 i] w fun e w' =>
      e = .returned (.tuple #[]) ∧ ∃ n' h' A', QW w' qb hb ab m n' h' A' ∧ Inv m n' h' A' (upd held i false) ts rs ∧ Only [qb, hb, ab] w w' ∧ (held i = true → n' + 1 = n) := by
  have qh := hQ.qh
  have qa := hQ.qa
  have ai := hQ.ac i hi
  have qf := hQ.qf
  have af := hQ.af
  have nqa := hQ.nqa
  have nqh := hQ.nqh
  have nha := hQ.nha
  have lq := hQ.lq
  have hnm := hI.rep.1
  cases hh : held i with
  | false =>
    have hA := hI.rep.2.2.1 i hi hh
    rw [hA] at ai
    have HQ : Hid (QW w qb hb ab m n h A) := hQ
    have HI : Hid (Inv m n h A (upd held i false) ts rs) := Inv.keep hI hh
    clear hA hh hI hQ
    go_enter Yba.func6, Yba.ntmps6
    go_wp2
    refine bodyPost_ret (results_none rfl _ _ _) rfl ?_
    exact ⟨rfl, n, h, A, HQ.out, HI.out, Only.refl _ _, fun h => by cases h⟩
  | true =>
    obtain ⟨k, hkn, hA, hks⟩ := hI.rep.2.2.2 i hi hh
    rw [hA] at ai
    have a0 := hQ.ht (n - 1) (by omega)
    have a1 := hQ.hr (n - 1) (by omega)
    have a2 := hQ.hs (n - 1) (by omega)
    obtain ⟨l, hl⟩ : ∃ l, l = n - 1 := ⟨_, rfl⟩
    have hli : (n : Int) - 1 = l := by omega
    have hln : l < n := by omega
    rw [← hl] at a0 a1 a2
    have HQ : Hid (QW w qb hb ab m n h A) := hQ
    by_cases hkl : k < l
    · obtain ⟨sl, hR⟩ := hI.remove_mid hi hh hA (by omega)
      rw [← hl] at hR
      have hs : (h l).s = sl := hR.src
      obtain ⟨lt, lr, hx⟩ : ∃ xt xr, h l = ⟨xt, xr, sl⟩ := ⟨(h l).t, (h l).r, by rw [← hs]⟩
      rw [hx] at a0 a1 a2 hR
      have HR : Hid (Ready m l k h (upd A i (-1)) ⟨lt, lr, sl⟩ sl (upd held i false) ts rs) := hR
      clear hA hh hI hQ hs hx hks hR hl
      go_enter Yba.func6, Yba.ntmps6
      go_wp2_with fail
      have hO0 : Only [qb, hb, ab] w (((w.setCell ⟨ab, i, none⟩ (.int .i64 (-1))).setCell ⟨qb, 0, none⟩ (.slice (some ⟨hb, 0, none⟩) l m)).alloc (.cells #[.int .u64 lt, .int .i64 lr, .int .i64 sl] 42)) :=
        (((Only.refl [qb, hb, ab] w).setCell (.inl (by simp)) _).setCell (.inl (by simp)) _).alloc _
      refine (place_any qb hb ab m l k sl h (upd A i (-1)) lt lr _ _ _ _ hm (((HQ.out.setA hi (-1)).setN l).alloc _) HR.out).mono ?_
      rintro e w' ⟨rfl, h', A', hQ', hI', hO⟩
      have HQ' : Hid (QW w' qb hb ab m l h' A') := hQ'
      have HI' : Hid (Inv m l h' A' (upd held i false) ts rs) := hI'
      have HO : Hid (Only [qb, hb, ab] w w') := hO0.trans (hO.mono (by simp))
      clear hQ' hI' hO hO0
      go_wp2
      go_end0
      exact ⟨rfl, l, h', A', HQ'.out, HI'.out, HO.out, fun _ => by omega⟩
    · have hI' := hI.remove_last hi hh hA (by omega)
      have HI : Hid (Inv m k h (upd A i (-1)) (upd held i false) ts rs) := hI'
      have hlk : l = k := by omega
      subst hlk
      clear hA hh hI hQ hI' hks hl
      go_enter Yba.func6, Yba.ntmps6
      go_wp2
      go_end0
      exact ⟨rfl, l, h, _, ((HQ.out.setA hi (-1)).setN l).alloc _, HI.out, (((Only.refl [qb, hb, ab] w).setCell (.inl (by simp)) _).setCell (.inl (by simp)) _).alloc _, fun _ => by omega⟩
end Go.Proofs.Ybulkdece

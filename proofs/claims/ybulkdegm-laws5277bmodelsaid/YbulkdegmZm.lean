import Derived.Test.YbulkdegmIs
import Derived.Laws.MakeOwn
import Derived.Laws.IdiomCopy
namespace Go.Proofs.Ybulkdegm
open Go.RowKit

/-- a row of the law's own: n numbers in block g -/
structure Rw (w W : World) (g n : Nat) (s : Nat → Int) : Prop where
  cell : ∀ j, j < n → W.cell? ⟨g, j, none⟩ = some (.int .i64 (s j))
  fr : ∀ j, j < n → W.frozen? ⟨g, j, none⟩ = false
  bel : Below w.heap.size w W
  hg : w.heap.size ≤ g
theorem Rw.drewN {w W : World} {g n : Nat} {s : Nat → Int} (h : Rw w W g n s) (d : Nat) : Rw w (W.drewN d) g n s := ⟨h.cell, h.fr, below_drewN' h.bel d, h.hg⟩
theorem other {W : World} {b o b' o' : Nat} (v : Value) (h : b ≠ b' ∨ o ≠ o') : (W.setCell ⟨b, o, none⟩ v).cell? ⟨b', o', none⟩ = W.cell? ⟨b', o', none⟩ :=
  World.cell?_setCell_other _ _ _ _ (fun e => by injection e with e1 e2; omega)
theorem Rw.swap {w W : World} {g n p : Nat} {s : Nat → Int} (h : Rw w W g n s) (hp : p + 1 < n) : Rw w ((W.setCell ⟨g, p + 1, none⟩ (.int .i64 (s p))).setCell ⟨g, p, none⟩ (.int .i64 (s (p + 1)))) g n (swp s p) := by
  refine ⟨fun j hj => ?_, fun j hj => (World.frozen?_setCell _ _ _ _).trans ((World.frozen?_setCell _ _ _ _).trans (h.fr j hj)), (h.bel.setCell (p := ⟨g, p + 1, none⟩) h.hg _).setCell (p := ⟨g, p, none⟩) h.hg _, h.hg⟩
  by_cases e1 : j = p
  · subst e1
    rw [World.cell?_setCell_same _ _ _ ((other _ (by omega)).trans (h.cell j hj)), swp, if_pos rfl]
  · rw [other _ (by omega)]
    by_cases e2 : j = p + 1
    · subst e2
      rw [World.cell?_setCell_same _ _ _ (h.cell _ hj), swp, if_neg e1, if_pos rfl]
    · rw [other _ (by omega), h.cell j hj, swp, if_neg e1, if_neg e2]

theorem below_setCells' {B : Nat} {w : World} (b : Nat) (hb : B ≤ b) : ∀ (vs : List Value) (o : Nat) {W : World}, Below B w W → Below B w (W.setCells b o vs)
  | [], _, _, h => h
  | v :: vs, o, W, h => by rw [World.setCells]; exact below_setCells' b hb vs _ (h.setCell (p := ⟨b, o, none⟩) hb v)

theorem make_t (w : World) (n : Nat) (hn : n ≤ 1024) : (Instr.makeSlice 23 (.int .i64 n) (.int .i64 n)).run Yba.prog w = .ok (.slice (some ⟨w.heap.size, 0, none⟩) n n) (w.alloc (.cells (madeCells #[.int .i64 0] n) 24)) := by
  obtain ⟨i0, hi, hz0, hz1, hz2⟩ := info_parts Yba.info24
  have h := run_make (P := Yba.prog) w 23 24 i0 _ Yba.underlying23 hi hz0 .i64 .i64 n n (by omega) (Int.le_refl _) (by rw [hz2]; omega) (by omega)
  simp only [Int.toNat_natCast, hz1, Nat.mul_one] at h
  exact h

def vals (n : Nat) (s : Nat → Int) : List Value := (List.range n).map fun j => .int .i64 (s j)
theorem vals_len (n : Nat) (s : Nat → Int) : (vals n s).length = n := by simp [vals]
theorem vals_at {n : Nat} {s : Nat → Int} {j : Nat} {u : Value} (h : (vals n s)[j]? = some u) : j < n ∧ u = .int .i64 (s j) := by
  have hj : j < n := by have := (List.getElem?_eq_some_iff.1 h).1; rwa [vals_len] at this
  refine ⟨hj, ?_⟩
  simp [vals, hj] at h
  exact h.symm

/-- make and copy -/
theorem copy_row (w : World) (tb off n c : Nat) (s : Nat → Int) (htb : tb < w.heap.size) (hcs : ∀ j, j < n → w.cell? ⟨tb, off + j, none⟩ = some (.int .i64 (s j))) :
    ∃ W1, Rw w W1 w.heap.size n s ∧ ∀ ty, (Builtin.copy_ #[23, 23] ty #[.slice (some ⟨w.heap.size, 0, none⟩) n n, .slice (some ⟨tb, off, none⟩) n c]).run Yba.prog (w.alloc (.cells (madeCells #[.int .i64 0] n) 24)) = .ok (.int .i64 n) W1 := by
  have hA : Below w.heap.size w (w.alloc (.cells (madeCells #[.int .i64 0] n) 24)) := (Below.refl _ w).alloc (Nat.le_refl _) _
  have hsm : ∀ j, j < n → ((w.alloc (.cells (madeCells #[.int .i64 0] n) 24)).cell? ⟨w.heap.size, j, none⟩).isSome = true := fun j hj => by
    rw [World.cell?_alloc_at _ _ _ _ rfl, Array.getElem?_eq_getElem (by rw [size_madeCells]; exact hj)]; rfl
  have hfr : ∀ j, (w.alloc (.cells (madeCells #[.int .i64 0] n) 24)).frozen? ⟨w.heap.size, j, none⟩ = false := fun j => World.frozen?_alloc_at _ _ _ _ rfl
  refine ⟨(w.alloc (.cells (madeCells #[.int .i64 0] n) 24)).setCells w.heap.size 0 (vals n s), ⟨fun j hj => ?_, fun j hj => ?_, below_setCells' _ (Nat.le_refl _) _ _ hA, Nat.le_refl _⟩, fun ty => ?_⟩
  · have h1 := World.cell?_setCells_in w.heap.size (vals n s) 0 (w.alloc (.cells (madeCells #[.int .i64 0] n) 24)) (fun t ht => by rw [Nat.zero_add]; rw [vals_len] at ht; exact hsm t ht) j (by rw [vals_len]; exact hj)
    rw [Nat.zero_add] at h1
    refine h1.trans ?_
    simp [vals]
  · rw [World.frozen?_setCells]; exact hfr j
  · have h := run_copy_cells (P := Yba.prog) (w.alloc (.cells (madeCells #[.int .i64 0] n) 24)) 23 23 ty 24 w.heap.size 0 n n ⟨tb, off, none⟩ n c (vals n s) Yba.underlying23 (by kernel_rfl) (by rw [vals_len]; exact (Nat.min_self n).symm) (fun j v hv => by
      obtain ⟨hj, rfl⟩ := vals_at hv
      rw [Addr.add_lit, hA.cell (p := ⟨tb, off + j, none⟩) htb]; exact hcs j hj) (fun j hj => by rw [Nat.zero_add]; rw [vals_len] at hj; exact hsm j hj) (fun j _ => by rw [Nat.zero_add]; exact hfr j) (fun v hv => by
      obtain ⟨j, _, rfl⟩ := List.mem_map.1 hv
      rfl)
    rw [vals_len] at h
    exact h

set_option maxRecDepth 100000 in
theorem zmedian_nil (ao : Option Addr) (c : Nat) (w : World) : Calls Yba.prog 9 #[.slice ao 0 c] w fun e w' => e = .returned (.int .i64 0) ∧ w' = w := by
  go_enter Yba.func9, Yba.ntmps9
  go_wp2
  go_ret
  exact ⟨rfl, rfl⟩

set_option maxRecDepth 100000 in
set_option maxHeartbeats 2000000 in
theorem zmedian_any (tb off n c : Nat) (zs : List Int) (hn : n = zs.length) (hne : zs ≠ []) (hlen : n ≤ 1024) (w : World) (htb : tb < w.heap.size) (hcs : ∀ j, j < n → w.cell? ⟨tb, off + j, none⟩ = some (.int .i64 (zs[j]?.getD 0))) :
    Calls Yba.prog 9 #[.slice (some ⟨tb, off, none⟩) n c] w fun e w' => e = .returned (.int .i64 (medOf (srt zs) n)) ∧ Below w.heap.size w w' := by
  have hn0 : 0 < n := by rw [hn]; exact List.length_pos_iff.2 hne
  have hmk := make_t w n hlen
  obtain ⟨W1, hR, hcp⟩ := copy_row w tb off n c (fun j => zs[j]?.getD 0) htb hcs
  have HP0 : Hid ((rowL (fun j => zs[j]?.getD 0) n).Perm zs) := by
    show List.Perm _ _
    rw [show rowL (fun j => zs[j]?.getD 0) n = zs by rw [hn]; exact upto_all zs]
  have HR0 : Hid (Rw w W1 w.heap.size n (fun j => zs[j]?.getD 0)) := hR
  have hn1 : ¬ (n : Int) = 0 := by omega
  clear hcs hR hn hne
  go_enter Yba.func9, Yba.ntmps9
  go_wp2
  obtain ⟨g, hg⟩ : ∃ x, x = w.heap.size := ⟨_, rfl⟩
  rw [← hg] at HR0
  rw [← hg]
  clear hmk hcp hg
  rw [show ((n : Int) == 0) = false by simp; omega]
  go_loopw [5] (fun iv wr => ∃ (i : Nat) (s : Nat → Int), 1 ≤ i ∧ i ≤ n ∧ iv = .int .i64 i ∧ Rw w wr g n s ∧ (rowL s n).Perm zs ∧ (∀ a b, a < b → b < i → s a ≤ s b)) (fun iv _ => n - (intOf iv).toNat)
  case atStart => exact ⟨1, _, by omega, by omega, rfl, HR0.out, HP0.out, fun a b h1 h2 => by omega⟩
  case round =>
    clear HR0 HP0
    obtain ⟨i, s, hi1, hin, rfl, hR, hP, hS⟩ := hrel
    have HR : Hid (Rw w wr g n s) := hR
    have HP : Hid ((rowL s n).Perm zs) := hP
    have HS : Hid (∀ a b, a < b → b < i → s a ≤ s b) := hS
    clear hR hP hS
    by_cases hlt : i < n
    · have hlt1 : (i : Int) < n := by omega
      go_wp2
      go_loopw [6] (fun jv wr => ∃ (j : Nat) (s : Nat → Int), j ≤ i ∧ jv = .int .i64 j ∧ Rw w wr g n s ∧ (rowL s n).Perm zs ∧ Ins s i j) (fun jv _ => (intOf jv).toNat)
      case atStart => exact ⟨i, s, Nat.le_refl _, rfl, HR.out, HP.out, fun a b h1 h2 h3 => HS.out a b h1 (by omega)⟩
      case round =>
        clear HR HP HS s
        obtain ⟨j, s, hji, rfl, hR, hP, hS⟩ := hrel
        have HR : Hid (Rw w wr g n s) := hR
        have HP : Hid ((rowL s n).Perm zs) := hP
        have HS : Hid (Ins s i j) := hS
        clear hP hS
        rcases j with _ | p
        · have HD : Hid (∀ a b, a < b → b < i + 1 → s a ≤ s b) := HS.out.done (by omega) (.inl rfl)
          clear hR
          go_wp2
          go_quiet (fail)
          go_wp2
          go_roundw
          case rel => exact ⟨i + 1, s, by omega, by omega, by go_num, HR.out.drewN _, HP.out, HD.out⟩
          case measure => simp [intOf]; omega
        · have x1 := hR.cell p (by omega)
          have x2 := hR.cell (p + 1) (by omega)
          have f1 := hR.fr p (by omega)
          have f2 := hR.fr (p + 1) (by omega)
          have hp1 : (p : Int) + 1 < n := by omega
          obtain ⟨A, hA⟩ : ∃ x, x = s p := ⟨_, rfl⟩
          obtain ⟨U, hU⟩ : ∃ x, x = s (p + 1) := ⟨_, rfl⟩
          have HA : Hid (A = s p) := hA
          have HU : Hid (U = s (p + 1)) := hU
          rw [← hA] at x1
          rw [← hU] at x2
          by_cases hgt : U < A
          · have HN : Hid (∀ d, Rw w (((wr.drewN d).setCell ⟨g, p + 1, none⟩ (.int .i64 A)).setCell ⟨g, p, none⟩ (.int .i64 U)) g n (swp s p)) := fun d => by rw [hA, hU]; exact (hR.drewN d).swap (by omega)
            have HI : Hid (Ins (swp s p) i p) := HS.out.step hji (by rw [← hA, ← hU]; exact hgt)
            have HP2 : Hid ((rowL (swp s p) n).Perm zs) := (swap_perm s p n (by omega)).trans HP.out
            clear hR hA hU
            go_wp2
            go_quiet (fail)
            go_wp2
            go_roundw
            case rel => exact ⟨p, swp s p, by omega, by go_num, HN.out _, HP2.out, HI.out⟩
            case measure => simp [intOf]
          · have HD : Hid (∀ a b, a < b → b < i + 1 → s a ≤ s b) := HS.out.done (by omega) (.inr (by rw [Nat.add_sub_cancel, ← hA, ← hU]; omega))
            clear hR hA hU
            go_wp2
            go_quiet (fail)
            go_wp2
            go_roundw
            case rel => exact ⟨i + 1, s, by omega, by omega, by go_num, HR.out.drewN _, HP.out, HD.out⟩
            case measure => simp [intOf]; omega
    · obtain rfl : i = n := by omega
      have HM : Hid (medOf s i = medOf (srt zs) i) := med_eq HP.out HS.out hn0
      have hR := HR.out
      by_cases hodd : i % 2 = 1
      · have x1 := hR.cell (i / 2) (by omega)
        have hr : (i : Int) % 2 = 1 := by omega
        have HQ : Hid (medOf s i = s (i / 2)) := by show _ = _; rw [medOf, if_pos hodd]
        clear hR
        go_wp2
        go_ret
        exact ⟨by rw [← HM.out, HQ.out]; rfl, HR.out.bel⟩
      · have x1 := hR.cell (i / 2) (by omega)
        have x2 := hR.cell (i / 2 - 1) (by omega)
        have hr : (i : Int) % 2 = 0 := by omega
        have HQ : Hid (medOf s i = wrap64 (s (i / 2 - 1) + wrap64 (Int.tdiv (wrap64 (s (i / 2) - s (i / 2 - 1))) 2))) := by show _ = _; rw [medOf, if_neg hodd]
        clear hR
        go_wp2
        go_ret
        exact ⟨by rw [← HM.out, HQ.out]; rfl, HR.out.bel⟩
end Go.Proofs.Ybulkdegm

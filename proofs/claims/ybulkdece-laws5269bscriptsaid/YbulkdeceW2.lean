import Derived.Test.YbulkdeceQ
import Derived.BigQuiet
import Derived.Deep.QuietTactic
import Derived.Deep.RegionHeld3
import Derived.Deep.DeepCutAuto
import Derived.Deep.CutBlock
namespace Go.Proofs.Ybulkdece
open Go.RowKit Plain

/-- an entry in a variable of its own -/
structure Box (w : World) (b : Nat) (t r s : Int) : Prop where
  c0 : w.cell? ⟨b, 0, none⟩ = some (.int .u64 t)
  c1 : w.cell? ⟨b, 1, none⟩ = some (.int .i64 r)
  c2 : w.cell? ⟨b, 2, none⟩ = some (.int .i64 s)
theorem Box.only {S : List Nat} {w w' : World} {b : Nat} {t r s : Int} (h : Box w b t r s) (hO : Only S w w') (hS : b ∉ S) : Box w' b t r s :=
  ⟨(hO.cell (Q_lt h.c0) hS).trans h.c0, (hO.cell (Q_lt h.c0) hS).trans h.c1, (hO.cell (Q_lt h.c0) hS).trans h.c2⟩

/-- what stands at the head of each loop of 'place' -/
structure Mid (w wr : World) (qb hb ab m n : Nat) (h : Nat → E) (A : Nat → Int) (et er : Int) (se : Nat) : Prop where
  q : QW wr qb hb ab m n h A
  box : Box wr w.heap.size et er se
  only : Only [hb, ab] w wr
  lt : w.heap.size < wr.heap.size
  lq : qb < w.heap.size
  lh : hb < w.heap.size
  la : ab < w.heap.size

theorem Mid.fresh {w wr W : World} {qb hb ab m n : Nat} {h : Nat → E} {A : Nat → Int} {et er : Int} {se : Nat} (hM : Mid w wr qb hb ab m n h A et er se) (hO : Only [] wr W) : Mid w W qb hb ab m n h A et er se :=
  ⟨hM.q.only hO (by simp) (by simp) (by simp), hM.box.only hO (by simp), hM.only.trans (hO.mono (by simp)), Nat.lt_of_lt_of_le hM.lt hO.size, hM.lq, hM.lh, hM.la⟩

theorem Mid.step {w W : World} {qb hb ab m n : Nat} {h : Nat → E} {A : Nat → Int} {et er : Int} {se : Nat} (hM : Mid w W qb hb ab m n h A et er se) {k sp : Nat} (hk : k < m) (hsp : sp < m) (xt xr : Int) :
    Mid w ((((W.setCell ⟨hb, k * 3, none⟩ (.int .u64 xt)).setCell ⟨hb, k * 3 + 1, none⟩ (.int .i64 xr)).setCell ⟨hb, k * 3 + 2, none⟩ (.int .i64 sp)).setCell ⟨ab, sp, none⟩ (.int .i64 k)) qb hb ab m n (upd h k ⟨xt, xr, sp⟩) (upd A sp k) et er se := by
  have hO : Only [hb, ab] W ((((W.setCell ⟨hb, k * 3, none⟩ (.int .u64 xt)).setCell ⟨hb, k * 3 + 1, none⟩ (.int .i64 xr)).setCell ⟨hb, k * 3 + 2, none⟩ (.int .i64 sp)).setCell ⟨ab, sp, none⟩ (.int .i64 k)) :=
    ((((Only.refl _ W).setCell (.inl (by simp)) _).setCell (.inl (by simp)) _).setCell (.inl (by simp)) _).setCell (.inl (by simp)) _
  have l1 := hM.lh
  have l2 := hM.la
  exact ⟨(hM.q.putH hk xt xr sp).setA hsp k, hM.box.only hO (by simp; omega), hM.only.trans hO, Nat.lt_of_lt_of_le hM.lt hO.size, hM.lq, hM.lh, hM.la⟩

set_option maxRecDepth 100000 in
set_option maxHeartbeats 2000000 in
theorem place_any (qb hb ab m n k se : Nat) (h : Nat → E) (A : Nat → Int) (et er : Int) (held : Nat → Bool) (ts rs : Nat → Int) (w : World) (hm : m ≤ 16)
    (hQ : QW w qb hb ab m n h A) (hR : Ready m n k h A ⟨et, er, se⟩ se held ts rs) :
    Calls Yba.prog 11 #[.pointer (some ⟨qb, 0, none⟩), .agg #[.int .u64 et, .int .i64 er, .int .i64 se], .int .i64 k] w fun e w' =>
      e = .returned (.tuple #[]) ∧ ∃ h' A', QW w' qb hb ab m n h' A' ∧ Inv m n h' A' held ts rs ∧ Only [hb, ab] w w' := by
  have qh := hQ.qh
  have qa := hQ.qa
  have lq := Q_lt qh
  have HQ : Hid (QW w qb hb ab m n h A) := hQ
  have HR : Hid (Ready m n k h A ⟨et, er, se⟩ se held ts rs) := hR
  clear hQ hR
  go_enter Yba.func11, Yba.ntmps11
  go_wp2
  go_quiet (fail)
  go_upto_block 0 with fail
  go_cut [2] (fun kv wr => ∃ (k : Nat) (h : Nat → E) (A : Nat → Int), kv = .int .i64 k ∧ Mid w wr qb hb ab m n h A et er se ∧ ReadyD m n k h A ⟨et, er, se⟩ se held ts rs)
  case first =>
    go_wp2_with fail
    go_loopw [2] (fun kv wr => ∃ (k : Nat) (h : Nat → E) (A : Nat → Int), kv = .int .i64 k ∧ Mid w wr qb hb ab m n h A et er se ∧ Ready m n k h A ⟨et, er, se⟩ se held ts rs)
      (fun kv _ => (intOf kv).toNat)
    case atStart =>
      exact ⟨k, h, A, rfl, ⟨(HQ.out.alloc _).drewN _, ⟨by simp [go_sem], by simp [go_sem], by simp [go_sem]⟩, ((Only.refl _ w).alloc _).drewN _, by simp, HQ.out.lq, HQ.out.lh, HQ.out.la⟩, HR.out⟩
    case round =>
      clear HQ HR qh qa h A k lq
      obtain ⟨k, h, A, rfl, hM, hR⟩ := hrel
      have hkn := hR.kn
      have hnm := hR.rep.1
      by_cases hk : 0 < k
      · obtain ⟨p, hp⟩ : ∃ p, p = (k - 1) / 2 := ⟨_, rfl⟩
        have hpi : ((k : Int) - 1) / 2 = p := by omega
        obtain ⟨sp, hsp, hspm, hR'⟩ := hR.step hk hp
        obtain ⟨xt, xr, hx⟩ : ∃ xt xr, h p = ⟨xt, xr, sp⟩ := ⟨(h p).t, (h p).r, by rw [← hsp]⟩
        have c0 := hM.q.ht p (by omega)
        have c1 := hM.q.hr p (by omega)
        have c2 := hM.q.hs p (by omega)
        rw [hx] at c0 c1 c2
        obtain ⟨e0, e1, e2⟩ := hM.box
        have HP : Hid (p = (k - 1) / 2) := hp
        have HX : Hid (h p = ⟨xt, xr, sp⟩) := hx
        have HM : Hid (Mid w wr qb hb ab m n h A et er se) := hM
        have HR : Hid (Ready m n k h A ⟨et, er, se⟩ se held ts rs) := hR
        rw [hx] at hR'
        have HR' : Hid (Ready m n p (upd h k ⟨xt, xr, sp⟩) (upd A sp k) ⟨et, er, se⟩ se held ts rs) := hR'
        have hpn : p < n := by omega
        have hpk : p < k := by omega
        have l1 := hM.lh
        have l2 := hM.la
        have l3 := hM.lt
        have lhb' : hb < wr.heap.size := by omega
        clear hp hx hM hR hR' hsp
        by_cases hl : ltB ⟨et, er, se⟩ ⟨xt, xr, sp⟩ = true
        · go_wp2
          go_region_held3 (fun w' => w'.cell? ⟨w.heap.size, 0, none⟩ = some (.int .u64 et) ∧ w'.cell? ⟨w.heap.size, 1, none⟩ = some (.int .i64 er) ∧ w'.cell? ⟨w.heap.size, 2, none⟩ = some (.int .i64 se) ∧ w'.cell? ⟨hb, p * 3, none⟩ = some (.int .u64 xt) ∧ w'.cell? ⟨hb, p * 3 + 1, none⟩ = some (.int .i64 xr) ∧ w'.cell? ⟨hb, p * 3 + 2, none⟩ = some (.int .i64 sp)) (go_keep) ((go_at_call 13; refine (before_any _ _ _ _ _ _ _).mono ?_; rintro e w' ⟨rfl, rfl⟩))
          refine absW (fun W => Mid w W qb hb ab m n h A et er se) (HM.out.fresh (((((Only.refl [] _)).alloc _).alloc _).drew)) ?_
          rename_i hheld
          clear hheld c0 c1 c2 e0 e1 e2 HM l1 l2 l3 lhb'
          intro W hM
          have c0 := hM.q.ht p (by omega)
          have c1 := hM.q.hr p (by omega)
          have c2 := hM.q.hs p (by omega)
          rw [HX.out] at c0 c1 c2
          have d0 := hM.q.ht k (by omega)
          have d1 := hM.q.hr k (by omega)
          have d2 := hM.q.hs k (by omega)
          have f0 := hM.q.hf
          have f1 := hM.q.af
          have g0 := hM.q.ac sp hspm
          have nha := hM.q.nha
          have HM : Hid (Mid w W qb hb ab m n h A et er se) := hM
          clear hM
          go_wp2
          go_roundw
          case rel => exact ⟨p, _, _, rfl, HM.out.step (by omega) hspm _ _, HR'.out⟩
          case measure => simp [intOf]; omega
        · have hl' : ltB ⟨et, er, se⟩ ⟨xt, xr, sp⟩ = false := by simpa using hl
          have HD : Hid (ReadyD m n k h A ⟨et, er, se⟩ se held ts rs) := HR.out.exit (.inr (by rw [← HP.out, HX.out]; exact ltB_false.1 hl'))
          go_wp2
          go_region_held3 (fun w' => w'.cell? ⟨w.heap.size, 0, none⟩ = some (.int .u64 et) ∧ w'.cell? ⟨w.heap.size, 1, none⟩ = some (.int .i64 er) ∧ w'.cell? ⟨w.heap.size, 2, none⟩ = some (.int .i64 se) ∧ w'.cell? ⟨hb, p * 3, none⟩ = some (.int .u64 xt) ∧ w'.cell? ⟨hb, p * 3 + 1, none⟩ = some (.int .i64 xr) ∧ w'.cell? ⟨hb, p * 3 + 2, none⟩ = some (.int .i64 sp)) (go_keep) ((go_at_call 13; refine (before_any _ _ _ _ _ _ _).mono ?_; rintro e w' ⟨rfl, rfl⟩))
          refine absW (fun W => Mid w W qb hb ab m n h A et er se) (HM.out.fresh (((((Only.refl [] _)).alloc _).alloc _).drew)) ?_
          rename_i hheld
          clear hheld c0 c1 c2 e0 e1 e2 HM l1 l2 l3 lhb' HR HR' HX HP hl hl'
          intro W hM
          have HM : Hid (Mid w W qb hb ab m n h A et er se) := hM
          clear hM
          go_wp2
          go_meet
          case rel => exact ⟨k, h, A, rfl, HM.out, HD.out⟩
      · have HD : Hid (ReadyD m n k h A ⟨et, er, se⟩ se held ts rs) := hR.exit (.inl (by omega))
        have HM : Hid (Mid w wr qb hb ab m n h A et er se) := hM
        clear hM hR
        go_wp2
        go_meet
        case rel => exact ⟨k, h, A, rfl, HM.out, HD.out⟩
  case rest =>
    clear HQ HR qh qa h A k lq
    obtain ⟨k, h, A, rfl, hM, hD⟩ := hcut
    have HM : Hid (Mid w wc qb hb ab m n h A et er se) := hM
    have HD : Hid (ReadyD m n k h A ⟨et, er, se⟩ se held ts rs) := hD
    clear hM hD
    go_upto_block 2 with fail
    go_cut [2] (fun kv wr => ∃ (k : Nat) (h : Nat → E) (A : Nat → Int), kv = .int .i64 k ∧ Mid w wr qb hb ab m n h A et er se ∧ k < n ∧ k < m ∧ se < m ∧ Inv m n (upd h k ⟨et, er, se⟩) (upd A se k) held ts rs)
    case rest =>
      clear HM HD k h A
      obtain ⟨k, h, A, rfl, hM, hkn, hkm, hsm, hI⟩ := hcut
      obtain ⟨e0, e1, e2⟩ := hM.box
      have d0 := hM.q.ht k (by omega)
      have d1 := hM.q.hr k (by omega)
      have d2 := hM.q.hs k (by omega)
      have f0 := hM.q.hf
      have f1 := hM.q.af
      have g0 := hM.q.ac se hsm
      have nha := hM.q.nha
      have l1 := hM.lh
      have l2 := hM.la
      have n1 : w.heap.size ≠ hb := by omega
      have n2 : w.heap.size ≠ ab := by omega
      have HM : Hid (Mid w _ qb hb ab m n h A et er se) := hM
      have HI : Hid (Inv m n (upd h k ⟨et, er, se⟩) (upd A se k) held ts rs) := hI
      clear hM hI
      go_wp2
      go_end0
      exact ⟨rfl, _, _, (HM.out.step hkm hsm et er).q, HI.out, (HM.out.step hkm hsm et er).only⟩
    case first =>
      go_wp2_with fail
      go_loopw [2] (fun kv wr => ∃ (k : Nat) (h : Nat → E) (A : Nat → Int), kv = .int .i64 k ∧ Mid w wr qb hb ab m n h A et er se ∧ ReadyD m n k h A ⟨et, er, se⟩ se held ts rs)
        (fun kv _ => (m - intOf kv).toNat)
      case atStart => exact ⟨k, h, A, rfl, HM.out, HD.out⟩
      case round =>
        clear HM HD h A k
        obtain ⟨k, h, A, rfl, hM, hD⟩ := hrel
        have hkn := hD.kn
        have hnm := hD.rep.1
        have HD : Hid (ReadyD m n k h A ⟨et, er, se⟩ se held ts rs) := hD
        by_cases hc : 2 * k + 1 < n
        · obtain ⟨c, hcd⟩ : ∃ c, c = 2 * k + 1 := ⟨_, rfl⟩
          have hci : 2 * (k : Int) + 1 = c := by omega
          have HC : Hid (c = 2 * k + 1) := hcd
          have hcn : c < n := by omega
          have hkc : k < c := by omega
          obtain ⟨sc, hsc, hscm⟩ := hD.srcOf (c := c) hcn (by omega)
          obtain ⟨ct, cr, hxc⟩ : ∃ xt xr, h c = ⟨xt, xr, sc⟩ := ⟨(h c).t, (h c).r, by rw [← hsc]⟩
          have HXC : Hid (h c = ⟨ct, cr, sc⟩) := hxc
          obtain ⟨r, hrd⟩ : ∃ r, r = c + 1 := ⟨_, rfl⟩
          have hri : (c : Int) + 1 = r := by omega
          have HRD : Hid (r = c + 1) := hrd
          have hkr : k < r := by omega
          have c0 := hM.q.ht c (by omega)
          have c1 := hM.q.hr c (by omega)
          have c2 := hM.q.hs c (by omega)
          rw [hxc] at c0 c1 c2
          obtain ⟨e0, e1, e2⟩ := hM.box
          have l1 := hM.lh
          have l2 := hM.la
          have l3 := hM.lt
          have lhb' : hb < wr.heap.size := by omega
          by_cases hr : r < n
          · obtain ⟨sr, hsr, hsrm⟩ := hD.srcOf (c := r) hr (by omega)
            obtain ⟨rt, rr, hxr⟩ : ∃ xt xr, h r = ⟨xt, xr, sr⟩ := ⟨(h r).t, (h r).r, by rw [← hsr]⟩
            have HXR : Hid (h r = ⟨rt, rr, sr⟩) := hxr
            have a0 := hM.q.ht r (by omega)
            have a1 := hM.q.hr r (by omega)
            have a2 := hM.q.hs r (by omega)
            rw [hxr] at a0 a1 a2
            have HM : Hid (Mid w wr qb hb ab m n h A et er se) := hM
            clear hM hD hsr hxr hrd hsc hxc hcd hc
            by_cases hlr : ltB ⟨rt, rr, sr⟩ ⟨ct, cr, sc⟩ = true
            · have HMIN : Hid (∀ d, 0 < d → d < n → (d - 1) / 2 = k → ¬ Lt (h d) (h r)) := by
                intro d d0 dn dk
                have h1 := HC.out
                have h2 := HRD.out
                rcases (show d = c ∨ d = r by omega) with e | e
                · subst e; rw [HXC.out, HXR.out]; exact (ltB_true.1 hlr).flip
                · subst e; exact le_irrefl _
              by_cases hl : ltB ⟨rt, rr, sr⟩ ⟨et, er, se⟩ = true
              · go_wp2
                go_region_held3 (fun w' => w'.cell? ⟨hb, c * 3, none⟩ = some (.int .u64 ct) ∧ w'.cell? ⟨hb, c * 3 + 1, none⟩ = some (.int .i64 cr) ∧ w'.cell? ⟨hb, c * 3 + 2, none⟩ = some (.int .i64 sc) ∧ w'.cell? ⟨hb, r * 3, none⟩ = some (.int .u64 rt) ∧ w'.cell? ⟨hb, r * 3 + 1, none⟩ = some (.int .i64 rr) ∧ w'.cell? ⟨hb, r * 3 + 2, none⟩ = some (.int .i64 sr)) (go_keep) ((go_at_call 13; refine (before_any _ _ _ _ _ _ _).mono ?_; rintro e w' ⟨rfl, rfl⟩))
                refine absW (fun W => Mid w W qb hb ab m n h A et er se) (HM.out.fresh (((((Only.refl [] _)).alloc _).alloc _).drew)) ?_
                rename_i hheld
                clear hheld c0 c1 c2 a0 a1 a2 e0 e1 e2 HM l1 l2 l3 lhb'
                intro W hM
                have c0 := hM.q.ht r (by omega)
                have c1 := hM.q.hr r (by omega)
                have c2 := hM.q.hs r (by omega)
                rw [HXR.out] at c0 c1 c2
                obtain ⟨e0, e1, e2⟩ := hM.box
                have l1 := hM.lh
                have l2 := hM.la
                have l3 := hM.lt
                have lhb' : hb < W.heap.size := by omega
                have HM : Hid (Mid w W qb hb ab m n h A et er se) := hM
                clear hM
                go_wp2
                go_region_held3 (fun w' => w'.cell? ⟨w.heap.size, 0, none⟩ = some (.int .u64 et) ∧ w'.cell? ⟨w.heap.size, 1, none⟩ = some (.int .i64 er) ∧ w'.cell? ⟨w.heap.size, 2, none⟩ = some (.int .i64 se) ∧ w'.cell? ⟨hb, r * 3, none⟩ = some (.int .u64 rt) ∧ w'.cell? ⟨hb, r * 3 + 1, none⟩ = some (.int .i64 rr) ∧ w'.cell? ⟨hb, r * 3 + 2, none⟩ = some (.int .i64 sr)) (go_keep) ((go_at_call 13; refine (before_any _ _ _ _ _ _ _).mono ?_; rintro e w' ⟨rfl, rfl⟩))
                refine absW (fun W => Mid w W qb hb ab m n h A et er se) (HM.out.fresh (((((Only.refl [] _)).alloc _).alloc _).drew)) ?_
                rename_i hheld
                clear hheld c0 c1 c2 e0 e1 e2 HM l1 l2 l3 lhb'
                intro W2 hM
                have c0 := hM.q.ht r (by omega)
                have c1 := hM.q.hr r (by omega)
                have c2 := hM.q.hs r (by omega)
                rw [HXR.out] at c0 c1 c2
                have d0 := hM.q.ht k (by omega)
                have d1 := hM.q.hr k (by omega)
                have d2 := hM.q.hs k (by omega)
                have f0 := hM.q.hf
                have f1 := hM.q.af
                have g0 := hM.q.ac sr hsrm
                have nha := hM.q.nha
                have HM : Hid (Mid w W2 qb hb ab m n h A et er se) := hM
                have HS : Hid (ReadyD m n r (upd h k ⟨rt, rr, sr⟩) (upd A sr k) ⟨et, er, se⟩ se held ts rs) := by
                  have h1 := HC.out
                  have h2 := HRD.out
                  have := HD.out.step (c := r) (by omega) (by omega) (by omega) HMIN.out (by rw [HXR.out]; exact ltB_true.1 hl) (sp := sr) (by rw [HXR.out])
                  rw [HXR.out] at this
                  exact this
                clear hM HD HMIN
                go_wp2
                go_roundw
                case rel => exact ⟨r, _, _, rfl, HM.out.step (by omega) hsrm _ _, HS.out⟩
                case measure => simp [intOf]; omega
              · have hl' : ltB ⟨rt, rr, sr⟩ ⟨et, er, se⟩ = false := by simpa using hl
                go_wp2
                go_region_held3 (fun w' => w'.cell? ⟨hb, c * 3, none⟩ = some (.int .u64 ct) ∧ w'.cell? ⟨hb, c * 3 + 1, none⟩ = some (.int .i64 cr) ∧ w'.cell? ⟨hb, c * 3 + 2, none⟩ = some (.int .i64 sc) ∧ w'.cell? ⟨hb, r * 3, none⟩ = some (.int .u64 rt) ∧ w'.cell? ⟨hb, r * 3 + 1, none⟩ = some (.int .i64 rr) ∧ w'.cell? ⟨hb, r * 3 + 2, none⟩ = some (.int .i64 sr)) (go_keep) ((go_at_call 13; refine (before_any _ _ _ _ _ _ _).mono ?_; rintro e w' ⟨rfl, rfl⟩))
                refine absW (fun W => Mid w W qb hb ab m n h A et er se) (HM.out.fresh (((((Only.refl [] _)).alloc _).alloc _).drew)) ?_
                rename_i hheld
                clear hheld c0 c1 c2 a0 a1 a2 e0 e1 e2 HM l1 l2 l3 lhb'
                intro W hM
                have c0 := hM.q.ht r (by omega)
                have c1 := hM.q.hr r (by omega)
                have c2 := hM.q.hs r (by omega)
                rw [HXR.out] at c0 c1 c2
                obtain ⟨e0, e1, e2⟩ := hM.box
                have l1 := hM.lh
                have l2 := hM.la
                have l3 := hM.lt
                have lhb' : hb < W.heap.size := by omega
                have HM : Hid (Mid w W qb hb ab m n h A et er se) := hM
                clear hM
                go_wp2
                go_region_held3 (fun w' => w'.cell? ⟨w.heap.size, 0, none⟩ = some (.int .u64 et) ∧ w'.cell? ⟨w.heap.size, 1, none⟩ = some (.int .i64 er) ∧ w'.cell? ⟨w.heap.size, 2, none⟩ = some (.int .i64 se) ∧ w'.cell? ⟨hb, r * 3, none⟩ = some (.int .u64 rt) ∧ w'.cell? ⟨hb, r * 3 + 1, none⟩ = some (.int .i64 rr) ∧ w'.cell? ⟨hb, r * 3 + 2, none⟩ = some (.int .i64 sr)) (go_keep) ((go_at_call 13; refine (before_any _ _ _ _ _ _ _).mono ?_; rintro e w' ⟨rfl, rfl⟩))
                refine absW (fun W => Mid w W qb hb ab m n h A et er se) (HM.out.fresh (((((Only.refl [] _)).alloc _).alloc _).drew)) ?_
                rename_i hheld
                clear hheld c0 c1 c2 e0 e1 e2 HM l1 l2 l3 lhb'
                intro W2 hM
                have HM : Hid (Mid w W2 qb hb ab m n h A et er se) := hM
                have hsm := HD.out.lt
                have HI : Hid (Inv m n (upd h k ⟨et, er, se⟩) (upd A se k) held ts rs) := HD.out.done (fun d d0 dn dk => by
                  have h1 := HMIN.out d d0 dn dk
                  rw [HXR.out] at h1
                  exact le_trans (ltB_false.1 hl') h1)
                clear hM HD HMIN
                go_wp2
                go_meet
                case rel => exact ⟨k, h, A, rfl, HM.out, by omega, by omega, hsm, HI.out⟩
            · have hlr' : ltB ⟨rt, rr, sr⟩ ⟨ct, cr, sc⟩ = false := by simpa using hlr
              have HMIN : Hid (∀ d, 0 < d → d < n → (d - 1) / 2 = k → ¬ Lt (h d) (h c)) := by
                intro d d0 dn dk
                have h1 := HC.out
                have h2 := HRD.out
                rcases (show d = c ∨ d = r by omega) with e | e
                · subst e; exact le_irrefl _
                · subst e; rw [HXC.out, HXR.out]; exact ltB_false.1 hlr'
              by_cases hl : ltB ⟨ct, cr, sc⟩ ⟨et, er, se⟩ = true
              · go_wp2
                go_region_held3 (fun w' => w'.cell? ⟨hb, c * 3, none⟩ = some (.int .u64 ct) ∧ w'.cell? ⟨hb, c * 3 + 1, none⟩ = some (.int .i64 cr) ∧ w'.cell? ⟨hb, c * 3 + 2, none⟩ = some (.int .i64 sc) ∧ w'.cell? ⟨hb, r * 3, none⟩ = some (.int .u64 rt) ∧ w'.cell? ⟨hb, r * 3 + 1, none⟩ = some (.int .i64 rr) ∧ w'.cell? ⟨hb, r * 3 + 2, none⟩ = some (.int .i64 sr)) (go_keep) ((go_at_call 13; refine (before_any _ _ _ _ _ _ _).mono ?_; rintro e w' ⟨rfl, rfl⟩))
                refine absW (fun W => Mid w W qb hb ab m n h A et er se) (HM.out.fresh (((((Only.refl [] _)).alloc _).alloc _).drew)) ?_
                rename_i hheld
                clear hheld c0 c1 c2 a0 a1 a2 e0 e1 e2 HM l1 l2 l3 lhb'
                intro W hM
                have c0 := hM.q.ht c (by omega)
                have c1 := hM.q.hr c (by omega)
                have c2 := hM.q.hs c (by omega)
                rw [HXC.out] at c0 c1 c2
                obtain ⟨e0, e1, e2⟩ := hM.box
                have l1 := hM.lh
                have l2 := hM.la
                have l3 := hM.lt
                have lhb' : hb < W.heap.size := by omega
                have HM : Hid (Mid w W qb hb ab m n h A et er se) := hM
                clear hM
                go_wp2
                go_region_held3 (fun w' => w'.cell? ⟨w.heap.size, 0, none⟩ = some (.int .u64 et) ∧ w'.cell? ⟨w.heap.size, 1, none⟩ = some (.int .i64 er) ∧ w'.cell? ⟨w.heap.size, 2, none⟩ = some (.int .i64 se) ∧ w'.cell? ⟨hb, c * 3, none⟩ = some (.int .u64 ct) ∧ w'.cell? ⟨hb, c * 3 + 1, none⟩ = some (.int .i64 cr) ∧ w'.cell? ⟨hb, c * 3 + 2, none⟩ = some (.int .i64 sc)) (go_keep) ((go_at_call 13; refine (before_any _ _ _ _ _ _ _).mono ?_; rintro e w' ⟨rfl, rfl⟩))
                refine absW (fun W => Mid w W qb hb ab m n h A et er se) (HM.out.fresh (((((Only.refl [] _)).alloc _).alloc _).drew)) ?_
                rename_i hheld
                clear hheld c0 c1 c2 e0 e1 e2 HM l1 l2 l3 lhb'
                intro W2 hM
                have c0 := hM.q.ht c (by omega)
                have c1 := hM.q.hr c (by omega)
                have c2 := hM.q.hs c (by omega)
                rw [HXC.out] at c0 c1 c2
                have d0 := hM.q.ht k (by omega)
                have d1 := hM.q.hr k (by omega)
                have d2 := hM.q.hs k (by omega)
                have f0 := hM.q.hf
                have f1 := hM.q.af
                have g0 := hM.q.ac sc hscm
                have nha := hM.q.nha
                have HM : Hid (Mid w W2 qb hb ab m n h A et er se) := hM
                have HS : Hid (ReadyD m n c (upd h k ⟨ct, cr, sc⟩) (upd A sc k) ⟨et, er, se⟩ se held ts rs) := by
                  have h1 := HC.out
                  have h2 := HRD.out
                  have := HD.out.step (c := c) (by omega) (by omega) (by omega) HMIN.out (by rw [HXC.out]; exact ltB_true.1 hl) (sp := sc) (by rw [HXC.out])
                  rw [HXC.out] at this
                  exact this
                clear hM HD HMIN
                go_wp2
                go_roundw
                case rel => exact ⟨c, _, _, rfl, HM.out.step (by omega) hscm _ _, HS.out⟩
                case measure => simp [intOf]; omega
              · have hl' : ltB ⟨ct, cr, sc⟩ ⟨et, er, se⟩ = false := by simpa using hl
                go_wp2
                go_region_held3 (fun w' => w'.cell? ⟨hb, c * 3, none⟩ = some (.int .u64 ct) ∧ w'.cell? ⟨hb, c * 3 + 1, none⟩ = some (.int .i64 cr) ∧ w'.cell? ⟨hb, c * 3 + 2, none⟩ = some (.int .i64 sc) ∧ w'.cell? ⟨hb, r * 3, none⟩ = some (.int .u64 rt) ∧ w'.cell? ⟨hb, r * 3 + 1, none⟩ = some (.int .i64 rr) ∧ w'.cell? ⟨hb, r * 3 + 2, none⟩ = some (.int .i64 sr)) (go_keep) ((go_at_call 13; refine (before_any _ _ _ _ _ _ _).mono ?_; rintro e w' ⟨rfl, rfl⟩))
                refine absW (fun W => Mid w W qb hb ab m n h A et er se) (HM.out.fresh (((((Only.refl [] _)).alloc _).alloc _).drew)) ?_
                rename_i hheld
                clear hheld c0 c1 c2 a0 a1 a2 e0 e1 e2 HM l1 l2 l3 lhb'
                intro W hM
                have c0 := hM.q.ht c (by omega)
                have c1 := hM.q.hr c (by omega)
                have c2 := hM.q.hs c (by omega)
                rw [HXC.out] at c0 c1 c2
                obtain ⟨e0, e1, e2⟩ := hM.box
                have l1 := hM.lh
                have l2 := hM.la
                have l3 := hM.lt
                have lhb' : hb < W.heap.size := by omega
                have HM : Hid (Mid w W qb hb ab m n h A et er se) := hM
                clear hM
                go_wp2
                go_region_held3 (fun w' => w'.cell? ⟨w.heap.size, 0, none⟩ = some (.int .u64 et) ∧ w'.cell? ⟨w.heap.size, 1, none⟩ = some (.int .i64 er) ∧ w'.cell? ⟨w.heap.size, 2, none⟩ = some (.int .i64 se) ∧ w'.cell? ⟨hb, c * 3, none⟩ = some (.int .u64 ct) ∧ w'.cell? ⟨hb, c * 3 + 1, none⟩ = some (.int .i64 cr) ∧ w'.cell? ⟨hb, c * 3 + 2, none⟩ = some (.int .i64 sc)) (go_keep) ((go_at_call 13; refine (before_any _ _ _ _ _ _ _).mono ?_; rintro e w' ⟨rfl, rfl⟩))
                refine absW (fun W => Mid w W qb hb ab m n h A et er se) (HM.out.fresh (((((Only.refl [] _)).alloc _).alloc _).drew)) ?_
                rename_i hheld
                clear hheld c0 c1 c2 e0 e1 e2 HM l1 l2 l3 lhb'
                intro W2 hM
                have HM : Hid (Mid w W2 qb hb ab m n h A et er se) := hM
                have hsm := HD.out.lt
                have HI : Hid (Inv m n (upd h k ⟨et, er, se⟩) (upd A se k) held ts rs) := HD.out.done (fun d d0 dn dk => by
                  have h1 := HMIN.out d d0 dn dk
                  rw [HXC.out] at h1
                  exact le_trans (ltB_false.1 hl') h1)
                clear hM HD HMIN
                go_wp2
                go_meet
                case rel => exact ⟨k, h, A, rfl, HM.out, by omega, by omega, hsm, HI.out⟩
          · have HMIN : Hid (∀ d, 0 < d → d < n → (d - 1) / 2 = k → ¬ Lt (h d) (h c)) := by
              intro d d0 dn dk
              have : d = c := by omega
              subst this; exact le_irrefl _
            have HM : Hid (Mid w wr qb hb ab m n h A et er se) := hM
            have hrf : decide ((r : Int) < (n : Int)) = false := decide_eq_false (by omega)
            have hrg : decide (r < n) = false := decide_eq_false (by omega)
            clear hM hD hrd hsc hxc hcd hc hr
            by_cases hl : ltB ⟨ct, cr, sc⟩ ⟨et, er, se⟩ = true
            · go_wp2
              go_quiet (fail)
              refine absW (fun W => Mid w W qb hb ab m n h A et er se) (HM.out.fresh ((Only.refl [] _).drewN _)) ?_
              clear c0 c1 c2 e0 e1 e2 HM l1 l2 l3 lhb'
              intro W hM
              have c0 := hM.q.ht c (by omega)
              have c1 := hM.q.hr c (by omega)
              have c2 := hM.q.hs c (by omega)
              rw [HXC.out] at c0 c1 c2
              obtain ⟨e0, e1, e2⟩ := hM.box
              have l1 := hM.lh
              have l2 := hM.la
              have l3 := hM.lt
              have lhb' : hb < W.heap.size := by omega
              have HM : Hid (Mid w W qb hb ab m n h A et er se) := hM
              clear hM
              go_wp2
              go_region_held3 (fun w' => w'.cell? ⟨w.heap.size, 0, none⟩ = some (.int .u64 et) ∧ w'.cell? ⟨w.heap.size, 1, none⟩ = some (.int .i64 er) ∧ w'.cell? ⟨w.heap.size, 2, none⟩ = some (.int .i64 se) ∧ w'.cell? ⟨hb, c * 3, none⟩ = some (.int .u64 ct) ∧ w'.cell? ⟨hb, c * 3 + 1, none⟩ = some (.int .i64 cr) ∧ w'.cell? ⟨hb, c * 3 + 2, none⟩ = some (.int .i64 sc)) (go_keep) ((go_at_call 13; refine (before_any _ _ _ _ _ _ _).mono ?_; rintro e w' ⟨rfl, rfl⟩))
              refine absW (fun W => Mid w W qb hb ab m n h A et er se) (HM.out.fresh (((((Only.refl [] _)).alloc _).alloc _).drew)) ?_
              rename_i hheld
              clear hheld c0 c1 c2 e0 e1 e2 HM l1 l2 l3 lhb'
              intro W2 hM
              have c0 := hM.q.ht c (by omega)
              have c1 := hM.q.hr c (by omega)
              have c2 := hM.q.hs c (by omega)
              rw [HXC.out] at c0 c1 c2
              have d0 := hM.q.ht k (by omega)
              have d1 := hM.q.hr k (by omega)
              have d2 := hM.q.hs k (by omega)
              have f0 := hM.q.hf
              have f1 := hM.q.af
              have g0 := hM.q.ac sc hscm
              have nha := hM.q.nha
              have HM : Hid (Mid w W2 qb hb ab m n h A et er se) := hM
              have HS : Hid (ReadyD m n c (upd h k ⟨ct, cr, sc⟩) (upd A sc k) ⟨et, er, se⟩ se held ts rs) := by
                have h1 := HC.out
                have h2 := HRD.out
                have := HD.out.step (c := c) (by omega) (by omega) (by omega) HMIN.out (by rw [HXC.out]; exact ltB_true.1 hl) (sp := sc) (by rw [HXC.out])
                rw [HXC.out] at this
                exact this
              clear hM HD HMIN
              go_wp2
              go_roundw
              case rel => exact ⟨c, _, _, rfl, HM.out.step (by omega) hscm _ _, HS.out⟩
              case measure => simp [intOf]; omega
            · have hl' : ltB ⟨ct, cr, sc⟩ ⟨et, er, se⟩ = false := by simpa using hl
              go_wp2
              go_quiet (fail)
              refine absW (fun W => Mid w W qb hb ab m n h A et er se) (HM.out.fresh ((Only.refl [] _).drewN _)) ?_
              clear c0 c1 c2 e0 e1 e2 HM l1 l2 l3 lhb'
              intro W hM
              have c0 := hM.q.ht c (by omega)
              have c1 := hM.q.hr c (by omega)
              have c2 := hM.q.hs c (by omega)
              rw [HXC.out] at c0 c1 c2
              obtain ⟨e0, e1, e2⟩ := hM.box
              have l1 := hM.lh
              have l2 := hM.la
              have l3 := hM.lt
              have lhb' : hb < W.heap.size := by omega
              have HM : Hid (Mid w W qb hb ab m n h A et er se) := hM
              clear hM
              go_wp2
              go_region_held3 (fun w' => w'.cell? ⟨w.heap.size, 0, none⟩ = some (.int .u64 et) ∧ w'.cell? ⟨w.heap.size, 1, none⟩ = some (.int .i64 er) ∧ w'.cell? ⟨w.heap.size, 2, none⟩ = some (.int .i64 se) ∧ w'.cell? ⟨hb, c * 3, none⟩ = some (.int .u64 ct) ∧ w'.cell? ⟨hb, c * 3 + 1, none⟩ = some (.int .i64 cr) ∧ w'.cell? ⟨hb, c * 3 + 2, none⟩ = some (.int .i64 sc)) (go_keep) ((go_at_call 13; refine (before_any _ _ _ _ _ _ _).mono ?_; rintro e w' ⟨rfl, rfl⟩))
              refine absW (fun W => Mid w W qb hb ab m n h A et er se) (HM.out.fresh (((((Only.refl [] _)).alloc _).alloc _).drew)) ?_
              rename_i hheld
              clear hheld c0 c1 c2 e0 e1 e2 HM l1 l2 l3 lhb'
              intro W2 hM
              have HM : Hid (Mid w W2 qb hb ab m n h A et er se) := hM
              have hsm := HD.out.lt
              have HI : Hid (Inv m n (upd h k ⟨et, er, se⟩) (upd A se k) held ts rs) := HD.out.done (fun d d0 dn dk => by
                have h1 := HMIN.out d d0 dn dk
                rw [HXC.out] at h1
                exact le_trans (ltB_false.1 hl') h1)
              clear hM HD HMIN
              go_wp2
              go_meet
              case rel => exact ⟨k, h, A, rfl, HM.out, by omega, by omega, hsm, HI.out⟩
        · have HI : Hid (Inv m n (upd h k ⟨et, er, se⟩) (upd A se k) held ts rs) := hD.done (fun d d0 dn dk => by omega)
          have HM : Hid (Mid w wr qb hb ab m n h A et er se) := hM
          have hsm := hD.lt
          have hcf : ¬ (2 * (k : Int) + 1 < n) := by omega
          clear hM hD HD
          go_wp2
          go_meet
          case rel => exact ⟨k, h, A, rfl, HM.out, by omega, by omega, hsm, HI.out⟩
end Go.Proofs.Ybulkdece

/-
  THE PLAIN LAW OF THE QUEUE: a binary heap with places, no Go in sight.
-/
namespace Go.Proofs.Ybulkdece.Plain

structure E where
  t : Int
  r : Int
  s : Int

def Lt (a b : E) : Prop := a.t < b.t ∨ (a.t = b.t ∧ (a.r < b.r ∨ (a.r = b.r ∧ a.s < b.s)))

theorem Lt.flip {a b : E} (h : Lt a b) : ¬ Lt b a := by unfold Lt at *; omega
theorem le_trans {a b c : E} (h1 : ¬ Lt b a) (h2 : ¬ Lt c b) : ¬ Lt c a := by unfold Lt at *; omega
theorem lt_le {a b c : E} (h1 : Lt a b) (h2 : ¬ Lt c b) : ¬ Lt c a := by unfold Lt at *; omega
theorem le_irrefl (a : E) : ¬ Lt a a := by unfold Lt; omega
theorem anti {a b : E} (h1 : ¬ Lt a b) (h2 : ¬ Lt b a) : a.t = b.t ∧ a.r = b.r ∧ a.s = b.s := by unfold Lt at *; omega

def upd {α : Type} (f : Nat → α) (k : Nat) (v : α) : Nat → α := fun j => if j = k then v else f j
theorem upd_same {α : Type} (f : Nat → α) (k : Nat) (v : α) : upd f k v k = v := by simp [upd]
theorem upd_other {α : Type} (f : Nat → α) {k j : Nat} (v : α) (h : j ≠ k) : upd f k v j = f j := by simp [upd, h]

/-- no entry comes before its parent -/
def Ord (n : Nat) (V : Nat → E) : Prop := ∀ j, 0 < j → j < n → ¬ Lt (V j) (V ((j - 1) / 2))
def Grand (n : Nat) (V : Nat → E) (k : Nat) : Prop := 0 < k → ∀ j, 0 < j → j < n → (j - 1) / 2 = k → ¬ Lt (V j) (V ((k - 1) / 2))
/-- .. but for the hole at k, upward and downward -/
def OrdU (n : Nat) (V : Nat → E) (k : Nat) : Prop :=
  (∀ j, 0 < j → j < n → j ≠ k → (j - 1) / 2 ≠ k → ¬ Lt (V j) (V ((j - 1) / 2))) ∧ Grand n V k
/-- .. but for the hole at k, downward alone -/
def OrdD (n : Nat) (V : Nat → E) (k : Nat) : Prop :=
  (∀ j, 0 < j → j < n → (j - 1) / 2 ≠ k → ¬ Lt (V j) (V ((j - 1) / 2))) ∧ Grand n V k

theorem up_step {n : Nat} {h : Nat → E} {k : Nat} {e : E} (hk : 0 < k) (hn : k < n) (hU : OrdU n (upd h k e) k) :
    OrdU n (upd (upd h k (h ((k - 1) / 2))) ((k - 1) / 2) e) ((k - 1) / 2) := by
  obtain ⟨ha, hb⟩ := hU
  have hpk : (k - 1) / 2 ≠ k := by omega
  generalize hp : (k - 1) / 2 = p at *
  refine ⟨fun j j0 jn jp jq => ?_, fun p0 j j0 jn jq => ?_⟩
  · by_cases hjk : j = k
    · subst hjk; omega
    · rw [upd_other _ _ jp, upd_other _ _ hjk]
      by_cases hq : (j - 1) / 2 = k
      · have := hb hk j j0 jn hq
        rw [upd_other _ _ hjk, hp, upd_other _ _ hpk] at this
        rw [hq, upd_other _ _ (Ne.symm hpk), upd_same]; exact this
      · have := ha j j0 jn hjk hq
        rw [upd_other _ _ hjk, upd_other _ _ hq] at this
        rw [upd_other _ _ jq, upd_other _ _ hq]; exact this
  · have hpp : (p - 1) / 2 ≠ p := by omega
    have hppk : (p - 1) / 2 ≠ k := by omega
    have h1 := ha p p0 (by omega) hpk hppk
    rw [upd_other _ _ hpk, upd_other _ _ hppk] at h1
    rw [upd_other _ _ hpp, upd_other _ _ hppk]
    have hjp : j ≠ p := by omega
    rw [upd_other _ _ hjp]
    by_cases hjk : j = k
    · subst hjk; rw [upd_same]; exact h1
    · rw [upd_other _ _ hjk]
      have := ha j j0 jn hjk (by omega)
      rw [upd_other _ _ hjk, jq, upd_other _ _ hpk] at this
      exact le_trans h1 this

theorem up_exit {n : Nat} {h : Nat → E} {k : Nat} {e : E} (hU : OrdU n (upd h k e) k) (hx : k = 0 ∨ ¬ Lt e (h ((k - 1) / 2))) : OrdD n (upd h k e) k := by
  refine ⟨fun j j0 jn jq => ?_, hU.2⟩
  by_cases hjk : j = k
  · subst hjk
    rw [upd_same, upd_other _ _ (by omega)]
    rcases hx with hx | hx
    · omega
    · exact hx
  · exact hU.1 j j0 jn hjk jq

theorem down_step {n : Nat} {h : Nat → E} {k c : Nat} {e : E} (hc0 : 0 < c) (hcn : c < n) (hck : (c - 1) / 2 = k) (hD : OrdD n (upd h k e) k)
    (hmin : ∀ d, 0 < d → d < n → (d - 1) / 2 = k → ¬ Lt (h d) (h c)) (hl : Lt (h c) e) :
    OrdD n (upd (upd h k (h c)) c e) c := by
  obtain ⟨ha, hb⟩ := hD
  have hkc : k ≠ c := by omega
  refine ⟨fun j j0 jn jq => ?_, fun _ j j0 jn jq => ?_⟩
  · rw [upd_other _ _ jq]
    by_cases hjc : j = c
    · subst hjc; rw [upd_same, hck, upd_same]; exact hl.flip
    · rw [upd_other _ _ hjc]
      by_cases hjk : j = k
      · subst hjk
        rw [upd_same, upd_other _ _ (by omega)]
        have := hb j0 c hc0 hcn hck
        rw [upd_other _ _ (Ne.symm hkc), upd_other _ _ (by omega)] at this
        exact this
      · rw [upd_other _ _ hjk]
        by_cases hq : (j - 1) / 2 = k
        · rw [hq, upd_same]; exact hmin j j0 jn hq
        · rw [upd_other _ _ hq]
          have := ha j j0 jn hq
          rw [upd_other _ _ hjk, upd_other _ _ hq] at this
          exact this
  · have hjc : j ≠ c := by omega
    have hjk : j ≠ k := by omega
    rw [upd_other _ _ hjc, upd_other _ _ hjk, hck, upd_other _ _ hkc, upd_same]
    have := ha j j0 jn (by omega)
    rw [upd_other _ _ hjk, jq, upd_other _ _ (Ne.symm hkc)] at this
    exact this

theorem down_exit {n : Nat} {h : Nat → E} {k : Nat} {e : E} (hD : OrdD n (upd h k e) k)
    (hx : ∀ d, 0 < d → d < n → (d - 1) / 2 = k → ¬ Lt (h d) e) : Ord n (upd h k e) := by
  intro j j0 jn
  by_cases hq : (j - 1) / 2 = k
  · rw [hq, upd_same, upd_other _ _ (by omega)]; exact hx j j0 jn hq
  · exact hD.1 j j0 jn hq

/-! ### the places -/
def Rep (m n : Nat) (V : Nat → E) (A : Nat → Int) (held : Nat → Bool) (ts rs : Nat → Int) : Prop :=
  n ≤ m ∧
  (∀ k, k < n → ∃ i : Nat, i < m ∧ (V k).s = i ∧ held i = true ∧ A i = k ∧ (V k).t = ts i ∧ (V k).r = rs i) ∧
  (∀ i, i < m → held i = false → A i = -1) ∧
  (∀ i, i < m → held i = true → ∃ k : Nat, k < n ∧ A i = k ∧ (V k).s = i)

/-- one step of a sift: the entry at p goes to the hole k, the hole to p -/
theorem rep_step {m n : Nat} {h : Nat → E} {A : Nat → Int} {held : Nat → Bool} {ts rs : Nat → Int} {k p se : Nat} {e : E}
    (hse : e.s = se) (hk : k < n) (hp : p < n) (hpk : p ≠ k)
    (hR : Rep m n (upd h k e) (upd A se k) held ts rs) :
    ∃ sp : Nat, (h p).s = sp ∧ sp < m ∧ sp ≠ se ∧ Rep m n (upd (upd h k (h p)) p e) (upd (upd A sp k) se p) held ts rs := by
  obtain ⟨h0, h1, h2, h3⟩ := hR
  obtain ⟨ip, hipm, hips, hiph, hipA, hipt, hipr⟩ := h1 p hp
  obtain ⟨ik, hikm, hiks, hikh, hikA, hikt, hikr⟩ := h1 k hk
  rw [upd_other _ _ hpk] at hips hipt hipr
  rw [upd_same] at hiks hikt hikr
  have hik : ik = se := by omega
  subst hik
  have hne : ip ≠ ik := by
    intro hE; subst hE; rw [upd_same] at hipA; omega
  rw [upd_other _ _ hne] at hipA
  refine ⟨ip, hips, hipm, hne, h0, fun j hj => ?_, fun i hi hh => ?_, fun i hi hh => ?_⟩
  · by_cases hjp : j = p
    · subst hjp
      refine ⟨ik, hikm, ?_, hikh, ?_, ?_, ?_⟩ <;> simp [upd_same, *]
    · by_cases hjk : j = k
      · subst hjk
        refine ⟨ip, hipm, ?_, hiph, ?_, ?_, ?_⟩
        · rw [upd_other _ _ hjp, upd_same]; exact hips
        · rw [upd_other _ _ hne, upd_same]
        · rw [upd_other _ _ hjp, upd_same]; exact hipt
        · rw [upd_other _ _ hjp, upd_same]; exact hipr
      · obtain ⟨i, him, his, hih, hiA, hit, hir⟩ := h1 j hj
        rw [upd_other _ _ hjk] at his hit hir
        have n1 : i ≠ ik := by intro hE; subst hE; rw [upd_same] at hiA; omega
        have n2 : i ≠ ip := by intro hE; subst hE; rw [upd_other _ _ n1] at hiA; omega
        rw [upd_other _ _ n1] at hiA
        refine ⟨i, him, ?_, hih, ?_, ?_, ?_⟩
        · rw [upd_other _ _ hjp, upd_other _ _ hjk]; exact his
        · rw [upd_other _ _ n1, upd_other _ _ n2]; exact hiA
        · rw [upd_other _ _ hjp, upd_other _ _ hjk]; exact hit
        · rw [upd_other _ _ hjp, upd_other _ _ hjk]; exact hir
  · have n1 : i ≠ ik := by intro hE; subst hE; rw [hikh] at hh; cases hh
    have n2 : i ≠ ip := by intro hE; subst hE; rw [hiph] at hh; cases hh
    have := h2 i hi hh
    rw [upd_other _ _ n1] at this
    rw [upd_other _ _ n1, upd_other _ _ n2]; exact this
  · by_cases n1 : i = ik
    · subst n1; exact ⟨p, hp, by rw [upd_same], by rw [upd_same]; exact hse⟩
    · by_cases n2 : i = ip
      · subst n2
        exact ⟨k, hk, by rw [upd_other _ _ n1, upd_same], by rw [upd_other _ _ (Ne.symm hpk), upd_same]; exact hips⟩
      · obtain ⟨j, hj, hA, hs⟩ := h3 i hi hh
        rw [upd_other _ _ n1] at hA
        have hjk : j ≠ k := by intro hE; subst hE; rw [upd_same] at hs; omega
        have hjp : j ≠ p := by intro hE; subst hE; rw [upd_other _ _ hjk] at hs; omega
        rw [upd_other _ _ hjk] at hs
        exact ⟨j, hj, by rw [upd_other _ _ n1, upd_other _ _ n2]; exact hA, by rw [upd_other _ _ hjp, upd_other _ _ hjk]; exact hs⟩

/-! ### how many are held -/
def cnt (held : Nat → Bool) : Nat → Nat
  | 0 => 0
  | i + 1 => cnt held i + (if held i = true then 1 else 0)
theorem cnt_le (held : Nat → Bool) (i : Nat) : cnt held i ≤ i := by
  induction i with
  | zero => simp [cnt]
  | succ i ih => simp only [cnt]; split <;> omega
theorem cnt_upd (held : Nat → Bool) (i : Nat) (v : Bool) (j : Nat) :
    cnt (upd held i v) j + (if i < j ∧ held i = true then 1 else 0) = cnt held j + (if i < j ∧ v = true then 1 else 0) := by
  induction j with
  | zero => simp [cnt]
  | succ j ih =>
    simp only [cnt]
    by_cases hij : j = i
    · subst hij
      rw [upd_same]
      simp only [Nat.lt_irrefl, false_and, if_false, Nat.add_zero, Nat.lt_succ_self, true_and] at ih ⊢
      omega
    · rw [upd_other _ _ hij]
      have : i < j + 1 ↔ i < j := by omega
      simp only [this]
      omega

structure Inv (m n : Nat) (V : Nat → E) (A : Nat → Int) (held : Nat → Bool) (ts rs : Nat → Int) : Prop where
  rep : Rep m n V A held ts rs
  ord : Ord n V
  num : n = cnt held m

theorem Inv.start (m : Nat) (V : Nat → E) (A : Nat → Int) (hA : ∀ i, i < m → A i = -1) (ts rs : Nat → Int) : Inv m 0 V A (fun _ => false) ts rs := by
  refine ⟨⟨Nat.zero_le _, fun k hk => by omega, fun i hi _ => hA i hi, fun i _ h => by cases h⟩, fun j _ hj => by omega, ?_⟩
  have : ∀ j, cnt (fun _ => false) j = 0 := by
    intro j; induction j with
    | zero => rfl
    | succ j ih => simp [cnt, ih]
  rw [this]

/-- what 'place' is handed, and what it leaves -/
structure Ready (m n k : Nat) (h : Nat → E) (A : Nat → Int) (e : E) (se : Nat) (held : Nat → Bool) (ts rs : Nat → Int) : Prop where
  src : e.s = se
  lt : se < m
  kn : k < n
  rep : Rep m n (upd h k e) (upd A se k) held ts rs
  ord : OrdU n (upd h k e) k
  num : n = cnt held m

/-- Set, a source that is not held -/
theorem Inv.set_new {m n : Nat} {V : Nat → E} {A : Nat → Int} {held : Nat → Bool} {ts rs : Nat → Int} (hI : Inv m n V A held ts rs) {i : Nat} (hi : i < m) (hh : held i = false) (t r : Int) :
    n < m ∧ Ready m (n + 1) n V A ⟨t, r, i⟩ i (upd held i true) (upd ts i t) (upd rs i r) := by
  obtain ⟨⟨h0, h1, h2, h3⟩, ho, hn⟩ := hI
  have hc := cnt_upd held i true m
  simp only [hi, hh, true_and, if_true, Bool.false_eq_true, if_false, Nat.add_zero] at hc
  have hle := cnt_le (upd held i true) m
  have hA := h2 i hi hh
  refine ⟨by omega, rfl, hi, by omega, ⟨by omega, fun j hj => ?_, fun j hj hf => ?_, fun j hj ht => ?_⟩, ⟨fun j j0 jn hjn hq => ?_, fun _ j j0 jn hq => by omega⟩, by omega⟩
  · by_cases hjn : j = n
    · subst hjn
      refine ⟨i, hi, ?_, ?_, ?_, ?_, ?_⟩ <;> simp [upd_same]
    · obtain ⟨x, hxm, hxs, hxh, hxA, hxt, hxr⟩ := h1 j (by omega)
      have hxi : x ≠ i := by intro hE; subst hE; rw [hh] at hxh; cases hxh
      refine ⟨x, hxm, ?_, ?_, ?_, ?_, ?_⟩
      · rw [upd_other _ _ hjn]; exact hxs
      · rw [upd_other _ _ hxi]; exact hxh
      · rw [upd_other _ _ hxi]; exact hxA
      · rw [upd_other _ _ hjn, upd_other _ _ hxi]; exact hxt
      · rw [upd_other _ _ hjn, upd_other _ _ hxi]; exact hxr
  · have hji : j ≠ i := by intro hE; subst hE; rw [upd_same] at hf; cases hf
    rw [upd_other _ _ hji] at hf ⊢
    exact h2 j hj hf
  · by_cases hji : j = i
    · subst hji; exact ⟨n, by omega, by rw [upd_same], by rw [upd_same]⟩
    · rw [upd_other _ _ hji] at ht ⊢
      obtain ⟨k, hk, hkA, hks⟩ := h3 j hj ht
      exact ⟨k, by omega, hkA, by rw [upd_other _ _ (by omega)]; exact hks⟩
  · rw [upd_other _ _ hjn, upd_other _ _ (by omega)]; exact ho j j0 (by omega)

/-- Set, a source that is held at place k -/
theorem Inv.set_old {m n : Nat} {V : Nat → E} {A : Nat → Int} {held : Nat → Bool} {ts rs : Nat → Int} (hI : Inv m n V A held ts rs) {i : Nat} (hi : i < m) (hh : held i = true) (t r : Int) :
    ∃ k : Nat, A i = k ∧ k < n ∧ Ready m n k V A ⟨t, r, i⟩ i (upd held i true) (upd ts i t) (upd rs i r) := by
  obtain ⟨⟨h0, h1, h2, h3⟩, ho, hn⟩ := hI
  have hc := cnt_upd held i true m
  simp only [hi, hh, true_and, if_true] at hc
  obtain ⟨k, hk, hkA, hks⟩ := h3 i hi hh
  refine ⟨k, hkA, hk, rfl, hi, hk, ⟨h0, fun j hj => ?_, fun j hj hf => ?_, fun j hj ht => ?_⟩, ⟨fun j j0 jn hjn hq => ?_, fun k0 j j0 jn hq => ?_⟩, by omega⟩
  · by_cases hjk : j = k
    · subst hjk
      refine ⟨i, hi, ?_, ?_, ?_, ?_, ?_⟩ <;> simp [upd_same]
    · obtain ⟨x, hxm, hxs, hxh, hxA, hxt, hxr⟩ := h1 j hj
      have hxi : x ≠ i := by intro hE; subst hE; omega
      refine ⟨x, hxm, ?_, ?_, ?_, ?_, ?_⟩
      · rw [upd_other _ _ hjk]; exact hxs
      · rw [upd_other _ _ hxi]; exact hxh
      · rw [upd_other _ _ hxi]; exact hxA
      · rw [upd_other _ _ hjk, upd_other _ _ hxi]; exact hxt
      · rw [upd_other _ _ hjk, upd_other _ _ hxi]; exact hxr
  · have hji : j ≠ i := by intro hE; subst hE; rw [upd_same] at hf; cases hf
    rw [upd_other _ _ hji] at hf ⊢
    exact h2 j hj hf
  · by_cases hji : j = i
    · subst hji; exact ⟨k, hk, by rw [upd_same], by rw [upd_same]⟩
    · rw [upd_other _ _ hji] at ht ⊢
      obtain ⟨k', hk', hkA', hks'⟩ := h3 j hj ht
      have hkk : k' ≠ k := by intro hE; subst hE; omega
      exact ⟨k', hk', hkA', by rw [upd_other _ _ hkk]; exact hks'⟩
  · rw [upd_other _ _ hjn, upd_other _ _ hq]; exact ho j j0 jn
  · rw [upd_other _ _ (by omega), upd_other _ _ (by omega)]
    have a1 := ho j j0 jn
    have a2 := ho k k0 hk
    rw [hq] at a1
    exact le_trans a2 a1

/-- Remove, a source that is held: at the last place -/
theorem Inv.remove_last {m n : Nat} {V : Nat → E} {A : Nat → Int} {held : Nat → Bool} {ts rs : Nat → Int} (hI : Inv m n V A held ts rs) {i k : Nat} (hi : i < m) (hh : held i = true) (hk : A i = k) (hl : k + 1 = n) :
    Inv m k V (upd A i (-1)) (upd held i false) ts rs := by
  obtain ⟨⟨h0, h1, h2, h3⟩, ho, hn⟩ := hI
  have hc := cnt_upd held i false m
  simp [hi, hh] at hc
  obtain ⟨k', hk', hkA', hks'⟩ := h3 i hi hh
  have : k' = k := by omega
  subst this
  refine ⟨⟨by omega, fun j hj => ?_, fun j hj hf => ?_, fun j hj ht => ?_⟩, fun j j0 jn => ho j j0 (by omega), by omega⟩
  · obtain ⟨x, hxm, hxs, hxh, hxA, hxt, hxr⟩ := h1 j (by omega)
    have hxi : x ≠ i := by intro hE; subst hE; omega
    refine ⟨x, hxm, hxs, ?_, ?_, hxt, hxr⟩
    · rw [upd_other _ _ hxi]; exact hxh
    · rw [upd_other _ _ hxi]; exact hxA
  · by_cases hji : j = i
    · subst hji; rw [upd_same]
    · rw [upd_other _ _ hji] at hf ⊢; exact h2 j hj hf
  · have hji : j ≠ i := by intro hE; subst hE; rw [upd_same] at ht; cases ht
    rw [upd_other _ _ hji] at ht ⊢
    obtain ⟨x, hx, hxA, hxs⟩ := h3 j hj ht
    have : x ≠ k' := by intro hE; subst hE; omega
    exact ⟨x, by omega, hxA, hxs⟩

/-- Remove, a source that is held: elsewhere: the last entry is placed anew -/
theorem Inv.remove_mid {m n : Nat} {V : Nat → E} {A : Nat → Int} {held : Nat → Bool} {ts rs : Nat → Int} (hI : Inv m n V A held ts rs) {i k : Nat} (hi : i < m) (hh : held i = true) (hk : A i = k) (hl : k + 1 < n) :
    ∃ sl : Nat, Ready m (n - 1) k V (upd A i (-1)) (V (n - 1)) sl (upd held i false) ts rs := by
  obtain ⟨⟨h0, h1, h2, h3⟩, ho, hn⟩ := hI
  have hc := cnt_upd held i false m
  simp [hi, hh] at hc
  obtain ⟨k', hk', hkA', hks'⟩ := h3 i hi hh
  have : k' = k := by omega
  subst this
  obtain ⟨sl, hsm, hss, hsh, hsA, hst, hsr⟩ := h1 (n - 1) (by omega)
  have hsi : sl ≠ i := by intro hE; subst hE; omega
  refine ⟨sl, hss, hsm, by omega, ⟨by omega, fun j hj => ?_, fun j hj hf => ?_, fun j hj ht => ?_⟩, ⟨fun j j0 jn hjn hq => ?_, fun k0 j j0 jn hq => ?_⟩, by omega⟩
  · by_cases hjk : j = k'
    · subst hjk
      refine ⟨sl, hsm, ?_, ?_, ?_, ?_, ?_⟩
      · rw [upd_same]; exact hss
      · rw [upd_other _ _ hsi]; exact hsh
      · rw [upd_same]
      · rw [upd_same]; exact hst
      · rw [upd_same]; exact hsr
    · obtain ⟨x, hxm, hxs, hxh, hxA, hxt, hxr⟩ := h1 j (by omega)
      have hxi : x ≠ i := by intro hE; subst hE; omega
      have hxl : x ≠ sl := by intro hE; subst hE; omega
      refine ⟨x, hxm, ?_, ?_, ?_, ?_, ?_⟩
      · rw [upd_other _ _ hjk]; exact hxs
      · rw [upd_other _ _ hxi]; exact hxh
      · rw [upd_other _ _ hxl, upd_other _ _ hxi]; exact hxA
      · rw [upd_other _ _ hjk]; exact hxt
      · rw [upd_other _ _ hjk]; exact hxr
  · have hjl : j ≠ sl := by intro hE; subst hE; rw [upd_other _ _ hsi, hsh] at hf; cases hf
    rw [upd_other _ _ hjl]
    by_cases hji : j = i
    · subst hji; rw [upd_same]
    · rw [upd_other _ _ hji] at hf ⊢; exact h2 j hj hf
  · have hji : j ≠ i := by intro hE; subst hE; rw [upd_same] at ht; cases ht
    by_cases hjl : j = sl
    · subst hjl; exact ⟨k', by omega, by rw [upd_same], by rw [upd_same]; exact hss⟩
    · rw [upd_other _ _ hji] at ht
      obtain ⟨x, hx, hxA, hxs⟩ := h3 j hj ht
      have hxk : x ≠ k' := by intro hE; subst hE; omega
      have hxn : x ≠ n - 1 := by intro hE; subst hE; omega
      exact ⟨x, by omega, by rw [upd_other _ _ hjl, upd_other _ _ hji]; exact hxA, by rw [upd_other _ _ hxk]; exact hxs⟩
  · rw [upd_other _ _ hjn, upd_other _ _ hq]; exact ho j j0 (by omega)
  · rw [upd_other _ _ (by omega), upd_other _ _ (by omega)]
    have a1 := ho j j0 (by omega)
    have a2 := ho k' k0 (by omega)
    rw [hq] at a1
    exact le_trans a2 a1

/-! ### the first -/
theorem root_min {n : Nat} {V : Nat → E} (ho : Ord n V) : ∀ j, j < n → ¬ Lt (V j) (V 0) := by
  intro j
  induction j using Nat.strongRecOn with
  | ind j ih =>
    intro hj
    by_cases h0 : j = 0
    · subst h0; exact le_irrefl _
    · exact le_trans (ih ((j - 1) / 2) (by omega) (by omega)) (ho j (by omega) hj)

def key (ts rs : Nat → Int) (i : Nat) : E := ⟨ts i, rs i, i⟩
/-- 'best' is the first of the held ones below i -/
def Best (held : Nat → Bool) (ts rs : Nat → Int) (i : Nat) (best : Int) : Prop :=
  (best = -1 ∧ ∀ j, j < i → held j = false) ∨
  (∃ b : Nat, best = b ∧ b < i ∧ held b = true ∧ ∀ j, j < i → held j = true → ¬ Lt (key ts rs j) (key ts rs b))

theorem Best.start (held : Nat → Bool) (ts rs : Nat → Int) : Best held ts rs 0 (-1) := .inl ⟨rfl, fun j hj => by omega⟩
theorem Best.skip {held : Nat → Bool} {ts rs : Nat → Int} {i : Nat} {best : Int} (h : Best held ts rs i best) (hh : held i = false) : Best held ts rs (i + 1) best := by
  rcases h with ⟨h, ha⟩ | ⟨b, h, hb, hbh, ha⟩
  · refine .inl ⟨h, fun j hj => ?_⟩
    by_cases e : j = i
    · subst e; exact hh
    · exact ha j (by omega)
  · refine .inr ⟨b, h, by omega, hbh, fun j hj hjh => ?_⟩
    have e : j ≠ i := by intro e; subst e; rw [hh] at hjh; cases hjh
    exact ha j (by omega) hjh
theorem Best.first {held : Nat → Bool} {ts rs : Nat → Int} {i : Nat} {best : Int} (h : Best held ts rs i best) (hb : best < 0) (hh : held i = true) : Best held ts rs (i + 1) i := by
  rcases h with ⟨h, ha⟩ | ⟨b, h, _⟩
  · refine .inr ⟨i, rfl, by omega, hh, fun j hj hjh => ?_⟩
    by_cases e : j = i
    · subst e; exact le_irrefl _
    · rw [ha j (by omega)] at hjh; cases hjh
  · omega
theorem Best.take {held : Nat → Bool} {ts rs : Nat → Int} {i b : Nat} (h : Best held ts rs i b) (hh : held i = true) (hl : Lt (key ts rs i) (key ts rs b)) : Best held ts rs (i + 1) i := by
  rcases h with ⟨h, _⟩ | ⟨b', h, hb, hbh, ha⟩
  · omega
  · have : b' = b := by omega
    subst this
    refine .inr ⟨i, rfl, by omega, hh, fun j hj hjh => ?_⟩
    by_cases e : j = i
    · subst e; exact le_irrefl _
    · exact lt_le hl (ha j (by omega) hjh)
theorem Best.leave {held : Nat → Bool} {ts rs : Nat → Int} {i b : Nat} (h : Best held ts rs i b) (hl : ¬ Lt (key ts rs i) (key ts rs b)) : Best held ts rs (i + 1) b := by
  rcases h with ⟨h, _⟩ | ⟨b', h, hb, hbh, ha⟩
  · omega
  · have : b' = b := by omega
    subst this
    refine .inr ⟨b', rfl, by omega, hbh, fun j hj hjh => ?_⟩
    by_cases e : j = i
    · subst e; exact hl
    · exact ha j (by omega) hjh

theorem Inv.none {m n : Nat} {V : Nat → E} {A : Nat → Int} {held : Nat → Bool} {ts rs : Nat → Int} (hI : Inv m n V A held ts rs) {best : Int} (hb : Best held ts rs m best) (h0 : n = 0) : best = -1 := by
  rcases hb with ⟨h, _⟩ | ⟨b, _, hb, hbh, _⟩
  · exact h
  · obtain ⟨k, hk, _⟩ := hI.rep.2.2.2 b hb hbh; omega
theorem Inv.some {m n : Nat} {V : Nat → E} {A : Nat → Int} {held : Nat → Bool} {ts rs : Nat → Int} (hI : Inv m n V A held ts rs) {best : Int} (hb : Best held ts rs m best) (h0 : 0 < n) :
    ∃ b : Nat, best = b ∧ b < m ∧ held b = true ∧ (V 0).s = b := by
  obtain ⟨i, him, his, hih, hiA, hit, hir⟩ := hI.rep.2.1 0 h0
  rcases hb with ⟨_, h⟩ | ⟨b, h, hbm, hbh, ha⟩
  · rw [h i him] at hih; cases hih
  · obtain ⟨k, hk, hkA, hks⟩ := hI.rep.2.2.2 b hbm hbh
    obtain ⟨x, hxm, hxs, hxh, hxA, hxt, hxr⟩ := hI.rep.2.1 k hk
    have hxb : x = b := by omega
    subst hxb
    have a1 := root_min hI.ord k hk
    have a2 := ha i him hih
    have e1 : V k = key ts rs x := by cases hv : V k; simp [key, hv] at *; exact ⟨hxt, hxr, hks⟩
    have e2 : V 0 = key ts rs i := by cases hv : V 0; simp [key, hv] at *; exact ⟨hit, hir, his⟩
    rw [e1, e2] at a1
    have := (anti a1 a2).2.2
    simp only [key] at this
    exact ⟨x, h, hbm, hbh, by omega⟩

/-! ### the two sifts of 'place' -/
structure ReadyD (m n k : Nat) (h : Nat → E) (A : Nat → Int) (e : E) (se : Nat) (held : Nat → Bool) (ts rs : Nat → Int) : Prop where
  src : e.s = se
  lt : se < m
  kn : k < n
  rep : Rep m n (upd h k e) (upd A se k) held ts rs
  ord : OrdD n (upd h k e) k
  num : n = cnt held m

theorem Ready.exit {m n k : Nat} {h : Nat → E} {A : Nat → Int} {e : E} {se : Nat} {held : Nat → Bool} {ts rs : Nat → Int} (hR : Ready m n k h A e se held ts rs) (hx : k = 0 ∨ ¬ Lt e (h ((k - 1) / 2))) : ReadyD m n k h A e se held ts rs :=
  ⟨hR.src, hR.lt, hR.kn, hR.rep, up_exit hR.ord hx, hR.num⟩
theorem Ready.step {m n k : Nat} {h : Nat → E} {A : Nat → Int} {e : E} {se : Nat} {held : Nat → Bool} {ts rs : Nat → Int} (hR : Ready m n k h A e se held ts rs) (hk : 0 < k) {p : Nat} (hp : p = (k - 1) / 2) :
    ∃ sp : Nat, (h p).s = sp ∧ sp < m ∧ Ready m n p (upd h k (h p)) (upd A sp k) e se held ts rs := by
  have hkn := hR.kn
  obtain ⟨sp, h1, h2, _, h4⟩ := rep_step (p := p) hR.src hR.kn (by omega) (by omega) hR.rep
  exact ⟨sp, h1, h2, hR.src, hR.lt, by omega, h4, by have := up_step hk hR.kn hR.ord; rw [← hp] at this; exact this, hR.num⟩
theorem ReadyD.step {m n k c : Nat} {h : Nat → E} {A : Nat → Int} {e : E} {se : Nat} {held : Nat → Bool} {ts rs : Nat → Int} (hR : ReadyD m n k h A e se held ts rs)
    (hc0 : 0 < c) (hcn : c < n) (hck : (c - 1) / 2 = k) (hmin : ∀ d, 0 < d → d < n → (d - 1) / 2 = k → ¬ Lt (h d) (h c)) (hl : Lt (h c) e) {sp : Nat} (hs : (h c).s = sp) :
    ReadyD m n c (upd h k (h c)) (upd A sp k) e se held ts rs := by
  obtain ⟨sp', h1, h2, _, h4⟩ := rep_step (p := c) hR.src hR.kn (by omega) (by omega) hR.rep
  have : sp' = sp := by omega
  subst this
  exact ⟨hR.src, hR.lt, by omega, h4, down_step hc0 hcn hck hR.ord hmin hl, hR.num⟩
theorem ReadyD.srcOf {m n k : Nat} {h : Nat → E} {A : Nat → Int} {e : E} {se : Nat} {held : Nat → Bool} {ts rs : Nat → Int} (hR : ReadyD m n k h A e se held ts rs) {c : Nat} (hc : c < n) (hck : c ≠ k) : ∃ sp : Nat, (h c).s = sp ∧ sp < m := by
  obtain ⟨i, h1, h2, _⟩ := hR.rep.2.1 c hc
  rw [upd_other _ _ hck] at h2
  exact ⟨i, h2, h1⟩
theorem ReadyD.done {m n k : Nat} {h : Nat → E} {A : Nat → Int} {e : E} {se : Nat} {held : Nat → Bool} {ts rs : Nat → Int} (hR : ReadyD m n k h A e se held ts rs)
    (hx : ∀ d, 0 < d → d < n → (d - 1) / 2 = k → ¬ Lt (h d) e) : Inv m n (upd h k e) (upd A se k) held ts rs :=
  ⟨hR.rep, down_exit hR.ord hx, hR.num⟩

end Go.Proofs.Ybulkdece.Plain

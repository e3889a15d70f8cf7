/- The floats of this law: no operation on its road is invalid. -/
import Derived.Laws.FloatArith
import Derived.KernelRfl
namespace Go.Proofs.Ybulkdegm
open Ieee

theorem dSign : double.signWeight = 9223372036854775808 := by decide
theorem dBin : double.binade = 4503599627370496 := by decide
theorem dInf : double.infRung = 9218868437227405312 := by decide
theorem dLeast : double.leastPlace = -1074 := by decide
theorem dFrac : double.fractionBits = 52 := rfl

theorem read_word (s : Bool) (r : Nat) (h : r ≤ 9218868437227405312) :
    double.read (double.word s r) = if r < 4503599627370496 then .number s r (-1074) else if r < 9218868437227405312 then .number s (4503599627370496 + r % 4503599627370496) (-1074 + (r / 4503599627370496 - 1 : Nat)) else .infinity s := by
  have h1 : double.word s r % 9223372036854775808 = r := by
    unfold Format.word; rw [dSign]; cases s <;> simp <;> omega
  have h2 : (double.word s r / 9223372036854775808 % 2 == 1) = s := by
    unfold Format.word; rw [dSign]
    cases s
    · simp; omega
    · simp; omega
  unfold Format.read
  rw [dSign, dBin, dInf, dLeast, h1, h2]
  by_cases c1 : r < 4503599627370496
  · simp [c1]
  · by_cases c2 : r < 9218868437227405312
    · simp [c1, c2]
    · have : r = 9218868437227405312 := by omega
      simp [this]

/-- no NaN -/
def Ok (x : Nat) : Prop := ∀ s t, double.read x ≠ .nan s t
/-- a finite number that is not 0 -/
def Fin' (x : Nat) : Prop := ∃ s m p, double.read x = .number s m p ∧ m ≠ 0

theorem ok_word (s : Bool) (r : Nat) (h : r ≤ 9218868437227405312) : Ok (double.word s r) := by
  intro a b
  rw [read_word s r h]
  split
  · simp
  · split <;> simp
theorem ok_nearest (s : Bool) (m : Nat) (p : Int) : Ok (double.nearest s m p) := by
  unfold Format.nearest
  split
  · exact ok_word _ _ (by omega)
  · exact ok_word _ _ (by rw [dInf]; exact Nat.min_le_right _ _)
theorem ok_write_number (s : Bool) (m : Nat) (p : Int) : Ok (double.write (.number s m p)) := ok_nearest s m p
theorem ok_write_inf (s : Bool) : Ok (double.write (.infinity s)) := ok_word _ _ (by rw [dInf]; exact Nat.le_refl _)
theorem Fin'.ok {x : Nat} (h : Fin' x) : Ok x := by
  obtain ⟨s, m, p, h, _⟩ := h
  intro a b
  rw [h]; simp

theorem cut_zero (s : Bool) (n : Nat) : Toward.even.cut s n 0 = n := by
  unfold Toward.cut
  simp [Nat.mod_one]
theorem cut_le (s : Bool) (n d : Nat) (hd : d ≤ n.log2 + 2) : Toward.even.cut s n d ≤ n / 2 ^ d + 1 := by
  unfold Toward.cut
  simp only [Nat.min_eq_left hd, Nat.one_shiftLeft]
  have : ∀ b : Bool, b.toNat ≤ 1 := fun b => by cases b <;> decide
  exact Nat.add_le_add_left (this _) _

theorem fin_nearest (s : Bool) (m : Nat) (p : Int) (hm : m ≠ 0) (h1 : -1074 < p + m.log2 - 52) (h2 : p + m.log2 - 52 ≤ 900) :
    ∃ m' p', double.read (double.nearest s m p) = .number s m' p' ∧ 4503599627370496 ≤ m' ∧ m' < 9007199254740992 ∧ p + m.log2 - 53 ≤ p' ∧ p' ≤ p + m.log2 - 51 := by
  obtain ⟨L, hL⟩ : ∃ L : Int, L = p + m.log2 - 52 := ⟨_, rfl⟩
  have hlt : m < 2 ^ (m.log2 + 1) := Nat.lt_log2_self
  have hkept : ∃ kept, Toward.even.cut s (m <<< (p - L).toNat) (L - p).toNat = kept ∧ kept ≤ 9007199254740992 := by
    refine ⟨_, rfl, ?_⟩
    by_cases hc : L ≤ p
    · have e1 : (L - p).toNat = 0 := by omega
      have e2 : (p - L).toNat = 52 - m.log2 := by omega
      have e3 : m.log2 ≤ 52 := by omega
      rw [e1, cut_zero, e2, Nat.shiftLeft_eq]
      have e4 : 2 ^ (m.log2 + 1) * 2 ^ (52 - m.log2) = 9007199254740992 := by rw [← Nat.pow_add, show m.log2 + 1 + (52 - m.log2) = 53 by omega]
      rw [← e4]
      exact Nat.mul_le_mul_right _ (Nat.le_of_lt hlt)
    · have e1 : (p - L).toNat = 0 := by omega
      have e2 : (L - p).toNat = m.log2 - 52 := by omega
      have e3 : 52 < m.log2 := by omega
      rw [e1, e2, Nat.shiftLeft_zero]
      refine Nat.le_trans (cut_le s m _ (by omega)) ?_
      have e4 : m / 2 ^ (m.log2 - 52) < 9007199254740992 := by
        rw [Nat.div_lt_iff_lt_mul (Nat.two_pow_pos _)]
        have : 9007199254740992 * 2 ^ (m.log2 - 52) = 2 ^ (m.log2 + 1) := by
          rw [show (9007199254740992 : Nat) = 2 ^ 53 from rfl, ← Nat.pow_add, show 53 + (m.log2 - 52) = m.log2 + 1 by omega]
        rw [this]; exact hlt
      omega
  obtain ⟨kept, hk1, hk2⟩ := hkept
  have hlast : max (p + m.log2 - double.fractionBits) double.leastPlace = L := by rw [dLeast, dFrac]; omega
  have hK : (L - double.leastPlace).toNat = (L + 1074).toNat := by rw [dLeast]; omega
  obtain ⟨K, hKe⟩ : ∃ K : Nat, (L + 1074).toNat = K := ⟨_, rfl⟩
  have hn : double.nearest s m p = double.word s (K * 4503599627370496 + kept) := by
    unfold Format.nearest
    rw [if_neg hm]
    simp only [hlast, hK, hKe, dBin, dInf, hk1]
    rw [Nat.min_eq_left (by omega)]
  have hr1 : 4503599627370496 ≤ K * 4503599627370496 + kept := by omega
  have hr2 : K * 4503599627370496 + kept < 9218868437227405312 := by omega
  rw [hn, read_word _ _ (by omega), if_neg (by omega), if_pos hr2]
  exact ⟨_, _, rfl, by omega, by omega, by omega, by omega⟩

/-- float64(n), of any 64-bit number -/
theorem near_num (n : Int) (h : n.natAbs < 18446744073709551616) : ∃ s m p, double.read (floatOfInt .f64 n) = .number s m p ∧ (n ≠ 0 → 4503599627370496 ≤ m ∧ m < 9007199254740992 ∧ -53 ≤ p ∧ p ≤ 13) := by
  show ∃ s m p, double.read (double.nearest (decide (n < 0)) n.natAbs 0) = _ ∧ _
  by_cases hn : n = 0
  · subst hn
    refine ⟨false, 0, -1074, ?_, fun h => absurd rfl h⟩
    decide
  · have hne : n.natAbs ≠ 0 := by omega
    have hl : n.natAbs.log2 < 64 := (Nat.log2_lt hne).2 h
    obtain ⟨m', p', e, a, b, c, d⟩ := fin_nearest (decide (n < 0)) n.natAbs 0 hne (by omega) (by omega)
    exact ⟨_, m', p', e, fun _ => ⟨a, b, by omega, by omega⟩⟩
theorem near_ok (n : Int) (h : n.natAbs < 18446744073709551616) : Ok (floatOfInt .f64 n) := by
  obtain ⟨s, m, p, e, _⟩ := near_num n h
  intro a b
  rw [e]; simp

theorem read20 : double.read 4697254411347427328 = .number false 4503599627370496 (-32) := by decide
theorem read9 : ∃ p, double.read 4741671816366391296 = .number false 8388608000000000 p := ⟨-23, by decide⟩

/-- bytes / 2^20: a finite number, not 0 -/
theorem mib_some (n : Int) (h : n.natAbs < 18446744073709551616) (hn : n ≠ 0) : ∃ r, floatBits .quo .f64 (floatOfInt .f64 n) 4697254411347427328 = some r ∧ Fin' r := by
  obtain ⟨s, m, p, e, hb⟩ := near_num n h
  obtain ⟨b1, b2, b3, b4⟩ := hb hn
  have hlog : m.log2 = 52 := by
    have h0 : m ≠ 0 := by omega
    have h1 : m.log2 < 53 := (Nat.log2_lt h0).2 (by omega)
    have h2 : ¬ m.log2 < 52 := fun hc => by have := (Nat.log2_lt h0).1 hc; omega
    omega
  have hlog2 : (4503599627370496 : Nat).log2 = 52 := by decide
  have hq : double.div (floatOfInt .f64 n) 4697254411347427328 = some (double.nearest s (2 * (m <<< 54 / 4503599627370496) + (m <<< 54 % 4503599627370496 != 0).toNat) (p - -32 - (54 : Nat) - 1)) := by
    unfold Format.div
    rw [e, read20]
    unfold Datum.quotient
    simp only [dFrac, hlog, hlog2]
    simp [Format.write]
  refine ⟨_, hq, ?_⟩
  obtain ⟨M, hM⟩ : ∃ M, M = 2 * (m <<< 54 / 4503599627370496) + (m <<< 54 % 4503599627370496 != 0).toNat := ⟨_, rfl⟩
  have hbit : ∀ b : Bool, b.toNat ≤ 1 := fun b => by cases b <;> decide
  have hM1 : 36028797018963968 ≤ M ∧ M < 72057594037927936 := by
    have hb := hbit (m <<< 54 % 4503599627370496 != 0)
    rw [Nat.shiftLeft_eq] at hM hb
    rw [show (2 ^ 54 : Nat) = 4 * 4503599627370496 from rfl, ← Nat.mul_assoc, Nat.mul_div_cancel _ (by decide)] at hM
    rw [show (2 ^ 54 : Nat) = 4 * 4503599627370496 from rfl, ← Nat.mul_assoc] at hb
    omega
  have hMl : M.log2 = 55 := by
    have h0 : M ≠ 0 := by omega
    have h1 : M.log2 < 56 := (Nat.log2_lt h0).2 (by omega)
    have h2 : ¬ M.log2 < 55 := fun hc => by have := (Nat.log2_lt h0).1 hc; omega
    omega
  rw [← hM]
  obtain ⟨m', p', e', a, _, _, _⟩ := fin_nearest s M (p - -32 - (54 : Nat) - 1) (by omega) (by omega) (by omega)
  exact ⟨s, m', p', e', by omega⟩

/-- a finite number, not 0, by whatever is no NaN -/
theorem div_some {x y : Nat} (hx : Fin' x) (hy : Ok y) : ∃ r, floatBits .quo .f64 x y = some r ∧ Ok r := by
  obtain ⟨s, m, p, e, hm⟩ := hx
  show ∃ r, double.div x y = some r ∧ Ok r
  unfold Format.div
  rw [e]
  cases hr : double.read y with
  | nan a b => exact absurd hr (hy a b)
  | infinity t => exact ⟨_, rfl, ok_write_number _ _ _⟩
  | number t n j =>
    by_cases hn : n = 0
    · subst hn
      refine ⟨double.write (.infinity (s ^^ t)), ?_, ok_write_inf _⟩
      simp [Datum.quotient, hm]
    · refine ⟨_, by simp only [Datum.quotient, if_neg hn, Option.map_some]; rfl, ok_write_number _ _ _⟩

/-- Seconds -/
theorem secs_some (a b : Int) (ha : a.natAbs < 18446744073709551616) (hb : b.natAbs < 18446744073709551616) :
    ∃ q r, floatBits .quo .f64 (floatOfInt .f64 b) 4741671816366391296 = some q ∧ floatBits .add .f64 (floatOfInt .f64 a) q = some r ∧ Ok r := by
  obtain ⟨s, m, p, e, _⟩ := near_num a ha
  obtain ⟨s', m', p', e', _⟩ := near_num b hb
  obtain ⟨pc, ec⟩ := read9
  have hq : ∃ q, double.div (floatOfInt .f64 b) 4741671816366391296 = some q ∧ Ok q := by
    unfold Format.div
    rw [e', ec]
    exact ⟨_, by simp only [Datum.quotient, Nat.reduceEqDiff, if_false, Option.map_some]; rfl, ok_write_number _ _ _⟩
  obtain ⟨q, hq, hqo⟩ := hq
  have hr : ∃ r, double.add (floatOfInt .f64 a) q = some r ∧ Ok r := by
    unfold Format.add
    rw [e]
    cases hr : double.read q with
    | nan c d => exact absurd hr (hqo c d)
    | infinity t => exact ⟨_, rfl, ok_write_inf _⟩
    | number t n j => exact ⟨_, rfl, ok_write_number _ _ _⟩
  obtain ⟨r, hr, hro⟩ := hr
  exact ⟨q, r, hq, hr, hro⟩

theorem order_refl {x : Nat} (h : Ok x) : double.order x x = some .eq := by
  unfold Format.order
  cases hr : double.read x with
  | nan a b => exact absurd hr (h a b)
  | infinity t => cases t <;> rfl
  | number t n j => simp [Datum.order]
end Go.Proofs.Ybulkdegm

import Derived.Test.YbulkdeduFmtW3
import Derived.Lib.Varint
namespace Go.Proofs.YbulkdeduFmt
open Go.RowKit

/-! ### the shortest encoding, plainly -/
/-- byte j of the encoding, where it goes on -/
def eb (v : Int) (j : Nat) : Int := v / 128 ^ j % 128 + 128
/-- the encoding that stops at n, and a tail behind it -/
def encF (v : Int) (n : Nat) (t : Nat → Int) : Nat → Int := fun j => if j < n then eb v j else if j = n then v / 128 ^ n else t (j - (n + 1))

theorem pow7 (i : Nat) : (2 : Int) ^ (7 * i) = 128 ^ i := by rw [Int.pow_mul]; rfl
theorem pow_pos (i : Nat) : (0 : Int) < 128 ^ i := Int.pow_pos (by decide)
theorem div_succ (v : Int) (i : Nat) : v / 128 ^ (i + 1) = v / 128 ^ i / 128 := by
  rw [Int.pow_succ, Int.ediv_ediv_of_nonneg (Int.le_of_lt (pow_pos i))]
theorem mod_succ (v : Int) (i : Nat) : v % 128 ^ (i + 1) = v % 128 ^ i + v / 128 ^ i % 128 * 128 ^ i := by
  have h1 := Int.mul_ediv_add_emod v (128 ^ i)
  have h2 := Int.mul_ediv_add_emod v (128 ^ (i + 1))
  have h3 := Int.mul_ediv_add_emod (v / 128 ^ i) 128
  rw [div_succ, Int.pow_succ] at h2
  rw [Int.pow_succ]
  generalize hp : (128 : Int) ^ i = p at *
  generalize hq : v / p = q at *
  have e2 : p * q = p * 128 * (q / 128) + q % 128 * p := by
    conv => lhs; rw [← h3]
    rw [Int.mul_add, Int.mul_comm p (q % 128), ← Int.mul_assoc]
  omega
theorem or_add {a b : Int} (i : Nat) (ha0 : 0 ≤ a) (ha : a < 128 ^ i) (hb : 0 ≤ b) (hs : a + b * 128 ^ i < 18446744073709551616) : bits .or .u64 a (IntKind.u64.wrap (b * 2 ^ (7 * i))) = a + b * 128 ^ i := by
  have hp := pow_pos i
  have hbp : 0 ≤ b * 128 ^ i := Int.mul_nonneg hb (Int.le_of_lt hp)
  rw [pow7, wrap_id hbp (by omega), u64_or a _ ha0 (by omega) hbp (by omega)]
  obtain ⟨x, rfl⟩ := Int.eq_ofNat_of_zero_le ha0
  obtain ⟨y, rfl⟩ := Int.eq_ofNat_of_zero_le hb
  have e1 : ((y : Int) * 128 ^ i).toNat = y <<< (7 * i) := by
    rw [Nat.shiftLeft_eq, Nat.pow_mul]
    have : ((y : Int) * 128 ^ i) = ((y * (2 ^ 7) ^ i : Nat) : Int) := by simp
    rw [this]; rfl
  have hx : x < 2 ^ (7 * i) := by
    rw [Nat.pow_mul]
    have : ((x : Nat) : Int) < (((2 ^ 7) ^ i : Nat) : Int) := by simpa using ha
    exact Int.ofNat_lt.1 this
  rw [e1, Int.toNat_natCast, Nat.or_comm, ← Nat.shiftLeft_add_eq_or_of_lt hx, ← e1]
  have : (((y : Int) * 128 ^ i).toNat : Int) = (y : Int) * 128 ^ i := Int.toNat_of_nonneg hbp
  omega

theorem acc_enc {v : Int} {n : Nat} {t : Nat → Int} (h0 : 0 ≤ v) (h1 : v < 18446744073709551616) : ∀ i, i ≤ n → acc (encF v n t) i = v % 128 ^ i
  | 0, _ => by simp [acc]
  | i + 1, hi => by
    have ih := acc_enc (n := n) (t := t) h0 h1 i (by omega)
    show bits .or .u64 (acc (encF v n t) i) (IntKind.u64.wrap (encF v n t i % 128 * 2 ^ (7 * i))) = _
    have e : encF v n t i % 128 = v / 128 ^ i % 128 := by unfold encF eb; rw [if_pos (by omega)]; omega
    have hp := pow_pos i
    have hm := mod_succ v i
    have hle : v % 128 ^ (i + 1) ≤ v := by
      have a1 := Int.mul_ediv_add_emod v (128 ^ (i + 1))
      have a2 := Int.mul_nonneg (Int.le_of_lt (pow_pos (i + 1))) (Int.ediv_nonneg h0 (Int.le_of_lt (pow_pos (i + 1))))
      omega
    rw [ih, e, or_add i (Int.emod_nonneg _ (by omega)) (Int.emod_lt_of_pos _ hp) (by omega) (by omega)]
    omega

theorem val_enc {v : Int} {n : Nat} {t : Nat → Int} (h0 : 0 ≤ v) (h1 : v < 18446744073709551616) : val (encF v n t) n = v := by
  unfold val
  have e : encF v n t n = v / 128 ^ n := by unfold encF; rw [if_neg (by omega), if_pos rfl]
  have hp := pow_pos n
  have hm := Int.mul_ediv_add_emod v (128 ^ n)
  have hc := Int.mul_comm (128 ^ n) (v / 128 ^ n)
  rw [acc_enc h0 h1 n (Nat.le_refl _), e, or_add n (Int.emod_nonneg _ (by omega)) (Int.emod_lt_of_pos _ hp) (Int.ediv_nonneg h0 (by omega)) (by omega)]
  omega

theorem good_enc {v : Int} {n tl : Nat} {t : Nat → Int} (h0 : 0 ≤ v) (h1 : v < 18446744073709551616) (hm : ∀ j, j < n → 128 ≤ v / 128 ^ j) (hs : v / 128 ^ n < 128) (hn : n ≤ 9) : Good (encF v n t) (n + 1 + tl) n := by
  have e : encF v n t n = v / 128 ^ n := by unfold encF; rw [if_neg (by omega), if_pos rfl]
  refine ⟨⟨by omega, by omega, fun j hj => ?_, fun _ _ => by rw [e]; exact hs⟩, by omega, by omega, fun h => ?_, fun h => ?_⟩
  · unfold encF eb; rw [if_pos hj]; omega
  · subst h
    rw [e]
    have : (128 : Int) ^ 9 = 9223372036854775808 := by rfl
    rw [this]; omega
  · rw [e]
    obtain ⟨k, rfl⟩ : ∃ k, n = k + 1 := ⟨n - 1, by omega⟩
    rw [div_succ]
    have := hm k (by omega)
    omega
theorem enc_nine {v : Int} {n : Nat} (h0 : 0 ≤ v) (h1 : v < 18446744073709551616) (hm : ∀ j, j < n → 128 ≤ v / 128 ^ j) : n ≤ 9 := by
  by_cases h : n ≤ 9
  · exact h
  · have := hm 9 (by omega)
    have e : (128 : Int) ^ 9 = 9223372036854775808 := by rfl
    rw [e] at this
    omega
end Go.Proofs.YbulkdeduFmt

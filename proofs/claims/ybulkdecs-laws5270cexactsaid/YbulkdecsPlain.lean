import Derived.Test.YbulkdecsRows
import Derived.WalkKit
namespace Go.Proofs.Ybulkdecs
open Go.RowKit

/-- member k's bit -/
def memBit (members : Int) (k : Nat) : Bool := decide (k < 64) && decide (members / 2 ^ k % 2 = 1)

theorem bit_code (members : Int) (k : Nat) (h0 : 0 ≤ members) (h1 : members < 18446744073709551616) : (bits BinOp.and IntKind.u64 members (IntKind.u64.wrap (2 ^ min k 64)) != 0) = memBit members k := by
  have hw : IntKind.u64.wrap ((2 : Int) ^ min k 64) = (2 : Int) ^ min k 64 % 18446744073709551616 := by rw [IntKind.wrap_u64]
  rw [hw, u64_and members _ h0 h1 (Int.emod_nonneg _ (by decide)) (Int.emod_lt_of_pos _ (by decide))]
  have := u64_bit_test_var members k h0 (by omega)
  simp only [Int.toNat_natCast] at this
  unfold memBit
  by_cases hk : k < 64 ∧ members / 2 ^ k % 2 = 1
  · have h2 : ¬ (((members.toNat &&& ((2 : Int) ^ min k 64 % 18446744073709551616).toNat : Nat) : Int) = 0) := fun e => (this.1 e) ⟨by omega, hk.2⟩
    rw [bne_iff_ne.2 h2, decide_eq_true hk.1, decide_eq_true hk.2]; rfl
  · have h2 := this.2 (fun e => hk ⟨by omega, e.2⟩)
    rw [h2]
    by_cases h3 : k < 64
    · rw [decide_eq_false (fun e => hk ⟨h3, e⟩)]; simp
    · rw [decide_eq_false h3]; simp

theorem bit_law (members : Int) (k : Nat) (h0 : 0 ≤ members) (h1 : members < 18446744073709551616) (hk : k < 64) : (bits BinOp.and IntKind.u64 (members / 2 ^ min k 64) 1 == 1) = memBit members k := by
  have e : min k 64 = k := by omega
  have p : (0 : Int) < 2 ^ k := Int.pow_pos (by decide)
  have h2 : 0 ≤ members / 2 ^ k := Int.ediv_nonneg h0 (Int.le_of_lt p)
  have h3 : members / 2 ^ k ≤ members := Int.ediv_le_self _ h0
  have h4 : members / 2 ^ k < 18446744073709551616 := Int.lt_of_le_of_lt h3 h1
  rw [e, u64_and _ 1 h2 h4 (by decide) (by decide)]
  unfold memBit
  have : (((members / 2 ^ k).toNat &&& (1 : Int).toNat : Nat) : Int) = members / 2 ^ k % 2 := by
    generalize members / 2 ^ k = x at h2
    obtain ⟨y, rfl⟩ := Int.eq_ofNat_of_zero_le h2
    show ((y &&& 1 : Nat) : Int) = _
    rw [Nat.and_one_is_mod]; omega
  rw [this, decide_eq_true hk, Bool.true_and]
  by_cases h : members / 2 ^ k % 2 = 1 <;> simp [h]
end Go.Proofs.Ybulkdecs

import Derived.Test.YbulkdeduDoorPre
namespace Go.Proofs.YbulkdeduDoor
open Go.RowKit

/-- how many gaps have opened among the first j kinds -/
def cnt (l t : Nat → Int) (k : Nat) : Nat → Nat
  | 0 => 0
  | j + 1 => if opn l t k j then cnt l t k j + 1 else cnt l t k j
theorem cnt_le (l t : Nat → Int) (k : Nat) : ∀ j, cnt l t k j ≤ j
  | 0 => Nat.le_refl _
  | j + 1 => by
    have := cnt_le l t k j
    rw [cnt]
    split <;> omega
theorem gapB_cnt {l t : Nat → Int} {k : Nat} {gb : Int} (hb1 : -9223372036854775808 ≤ gb) (hb2 : gb < 9223372036854775808) : ∀ j, gapB l t k gb j = IntKind.i64.wrap (gb + 16 * (cnt l t k j : Int))
  | 0 => by rw [gapB, cnt, IntKind.wrap_i64]; omega
  | j + 1 => by
    rw [gapB, cnt, gapB_cnt hb1 hb2 j]
    split
    · simp only [IntKind.wrap_i64]; omega
    · rfl
theorem cnt_zero {l t : Nat → Int} {k : Nat} : cnt l t k 3 = 0 ↔ (opn l t k 0 || opn l t k 1 || opn l t k 2) = false := by
  have e : cnt l t k 3 = (if opn l t k 2 then (if opn l t k 1 then (if opn l t k 0 then 0 + 1 else 0) + 1 else (if opn l t k 0 then 0 + 1 else 0)) + 1 else (if opn l t k 1 then (if opn l t k 0 then 0 + 1 else 0) + 1 else (if opn l t k 0 then 0 + 1 else 0))) := rfl
  rw [e]
  cases opn l t k 0 <;> cases opn l t k 1 <;> cases opn l t k 2 <;> simp
end Go.Proofs.YbulkdeduDoor

import Derived.Test.YbulkdeceRows
import Derived.Test.YbulkdecePlain
import Derived.WalkKit
import Derived.WalkSpells
namespace Go.Proofs.Ybulkdece
open Go.RowKit Plain

/-- An entry as a value. -/
abbrev cellsOf (x : E) : Array Value := #[.int .u64 x.t, .int .i64 x.r, .int .i64 x.s]

/-- 'a comes before b' as a Bool. -/
def ltB (a b : E) : Bool := decide (a.t < b.t) || (a.t == b.t && (decide (a.r < b.r) || (a.r == b.r && decide (a.s < b.s))))
theorem ltB_true {a b : E} : ltB a b = true ↔ Lt a b := by simp [ltB, Lt]
theorem ltB_false {a b : E} : ltB a b = false ↔ ¬ Lt a b := by rw [← ltB_true]; simp
theorem ltB_def (a b : E) : ltB a b = if (a.t != b.t) = true then decide (a.t < b.t) else if (a.r != b.r) = true then decide (a.r < b.r) else decide (a.s < b.s) := by
  by_cases h : Lt a b
  · rw [ltB_true.2 h]; unfold Lt at h
    split
    · rename_i h1; simp at h1 ⊢; omega
    · rename_i h1; simp at h1
      split
      · rename_i h2; simp at h2 ⊢; omega
      · rename_i h2; simp at h2 ⊢; omega
  · rw [ltB_false.2 h]; unfold Lt at h
    split
    · rename_i h1; simp at h1 ⊢; omega
    · rename_i h1; simp at h1
      split
      · rename_i h2; simp at h2 ⊢; omega
      · rename_i h2; simp at h2 ⊢; omega

set_option maxHeartbeats 400000 in
theorem before_any (at_ ar as_ bt br bs : Int) (w : World) :
    Calls Yba.prog 13 #[.agg #[.int .u64 at_, .int .i64 ar, .int .i64 as_], .agg #[.int .u64 bt, .int .i64 br, .int .i64 bs]] w fun e w' =>
      e = .returned (.bool (ltB ⟨at_, ar, as_⟩ ⟨bt, br, bs⟩)) ∧ w' = (w.alloc (.cells #[.int .u64 at_, .int .i64 ar, .int .i64 as_] 42)).alloc (.cells #[.int .u64 bt, .int .i64 br, .int .i64 bs] 42) := by
  rw [ltB_def]
  go_enter Yba.func13, Yba.ntmps13
  go_wp2
  all_goals (go_ret)
  all_goals (refine ⟨?_, rfl⟩)
  all_goals simp [*]

set_option maxHeartbeats 400000 in
theorem less_any (at_ ar as_ bt br bs : Int) (w : World) :
    Calls Yba.prog 12 #[.int .u64 at_, .int .i64 ar, .int .i64 as_, .int .u64 bt, .int .i64 br, .int .i64 bs] w fun e w' =>
      e = .returned (.bool (ltB ⟨at_, ar, as_⟩ ⟨bt, br, bs⟩)) ∧ w' = w := by
  rw [ltB_def]
  go_enter Yba.func12, Yba.ntmps12
  go_wp2
  all_goals (go_ret)
  all_goals (refine ⟨?_, rfl⟩)
  all_goals simp [*]
end Go.Proofs.Ybulkdece

import Derived.Test.YbulkdeduFmtW1
namespace Go.Proofs.YbulkdeduFmt
open Go.RowKit

/-- a well-formed shortest uvarint that stops at s -/
structure Good (f : Nat → Int) (len s : Nat) : Prop where
  st : Stop f len s
  lt : s < len
  nine : s < 10
  top : s = 9 → f 9 ≤ 1
  short : 0 < s → f s ≠ 0

/-- a' is where a[lo:] begins, if it shows anything -/
def Cut (a : Option Addr) (lo len : Nat) (a' : Option Addr) : Prop := lo < len → ∃ b o, a = some ⟨b, o, none⟩ ∧ a' = some ⟨b, o + lo, none⟩
theorem Cut.bytes {w : World} {a a' : Option Addr} {lo len : Nat} {f : Nat → Int} (h : Cut a lo len a') (hB : BytesAt w a len f) : BytesAt w a' (len - lo) (fun j => f (lo + j)) := by
  intro j hj
  obtain ⟨b, o, rfl, rfl⟩ := h (by omega)
  obtain ⟨b', o', e, hc, h1, h2⟩ := hB (lo + j) (by omega)
  simp only [Option.some.injEq, Addr.mk.injEq, and_true] at e
  obtain ⟨rfl, rfl⟩ := e
  exact ⟨b, o + lo, rfl, by rw [Nat.add_assoc]; exact hc, h1, h2⟩

/-- the reader in memory, its bytes elsewhere -/
structure RW (w : World) (rb : Nat) (a : Option Addr) (len cap : Nat) (ev : Value) : Prop where
  c0 : w.cell? ⟨rb, 0, none⟩ = some (.slice a len cap)
  c2 : w.cell? ⟨rb, 2, none⟩ = some ev
  fr : ∀ o, w.frozen? ⟨rb, o, none⟩ = false
  ne : ∀ b o, a = some ⟨b, o, none⟩ → b ≠ rb

theorem or_zero {x : Int} (h0 : 0 ≤ x) (h1 : x < 18446744073709551616) : bits .or .u64 0 x = x := by
  rw [u64_or 0 x (by decide) (by decide) h0 h1]; simp; omega
theorem wrap_id {x : Int} (h0 : 0 ≤ x) (h1 : x < 18446744073709551616) : IntKind.u64.wrap x = x := by rw [IntKind.wrap_u64]; omega
theorem val_zero {f : Nat → Int} (h0 : 0 ≤ f 0) (h1 : f 0 ≤ 255) : val f 0 = f 0 := by
  unfold val acc
  rw [show (2 : Int) ^ (7 * 0) = 1 by rfl, Int.mul_one, wrap_id h0 (by omega), or_zero h0 (by omega)]
theorem acc_one {f : Nat → Int} : acc f 1 = f 0 % 128 := by
  show bits .or .u64 (acc f 0) _ = _
  rw [show acc f 0 = 0 from rfl, show (2 : Int) ^ (7 * 0) = 1 by rfl, Int.mul_one, wrap_id (by omega) (by omega), or_zero (by omega) (by omega)]
theorem val_one {f : Nat → Int} (h0 : 0 ≤ f 1) (h1 : f 1 ≤ 255) : val f 1 = bits .or .u64 (f 0 % 128) (f 1 * 128) := by
  unfold val
  rw [acc_one, show (2 : Int) ^ (7 * 1) = 128 by rfl, wrap_id (by omega) (by omega)]

set_option maxRecDepth 100000 in
set_option maxHeartbeats 1000000 in
theorem uvarint_one (rb : Nat) (a : Option Addr) (len cap : Nat) (f : Nat → Int) (what : ByteArray) (w : World) (hl : len ≤ 2048) (hcap : len ≤ cap) (hcp : cap ≤ 9223372036854775807) (hB : BytesAt w a len f) (hR : RW w rb a len cap .nilIface) (hlen : 0 < len) (h0 : f 0 < 128) :
    Calls Ybaf.prog 9 #[.pointer (some ⟨rb, 0, none⟩), .string what] w fun e w' => e = .returned (.int .u64 (val f 0)) ∧ ∃ a' d, w' = (w.setCell ⟨rb, 0, none⟩ (.slice a' (len - 1) (cap - 1))).drewN d ∧ Cut a 1 len a' := by
  obtain ⟨b, o, rfl, x0, p1, p2⟩ := hB 0 hlen
  simp only [Nat.add_zero] at x0
  have E : Hid (val f 0 = f 0) := val_zero p1 p2
  have ne := hR.ne b o rfl
  obtain ⟨c0, c2, fr, _⟩ := hR
  clear hB
  by_cases hc1 : cap = 1
  · subst hc1
    have hl1 : len = 1 := by omega
    subst hl1
    go_enter Ybaf.func9, Ybaf.ntmps9
    go_wp2
    go_ret
    exact ⟨by rw [E.out]; rfl, _, 0, rfl, fun h => by omega⟩
  · go_enter Ybaf.func9, Ybaf.ntmps9
    go_wp2
    go_ret
    exact ⟨by rw [E.out]; rfl, _, 0, rfl, fun h => ⟨b, o, rfl, rfl⟩⟩

set_option maxRecDepth 100000 in
set_option maxHeartbeats 1000000 in
theorem uvarint_two (rb : Nat) (a : Option Addr) (len cap : Nat) (f : Nat → Int) (what : ByteArray) (w : World) (hl : len ≤ 2048) (hcap : len ≤ cap) (hcp : cap ≤ 9223372036854775807) (hB : BytesAt w a len f) (hR : RW w rb a len cap .nilIface) (hlen : 1 < len) (h0 : 128 ≤ f 0) (h1 : f 1 < 128) (h2 : f 1 ≠ 0) :
    Calls Ybaf.prog 9 #[.pointer (some ⟨rb, 0, none⟩), .string what] w fun e w' => e = .returned (.int .u64 (val f 1)) ∧ ∃ a' d, w' = (w.setCell ⟨rb, 0, none⟩ (.slice a' (len - 2) (cap - 2))).drewN d ∧ Cut a 2 len a' := by
  obtain ⟨b, o, rfl, x0, p1, p2⟩ := hB 0 (by omega)
  obtain ⟨b', o', e, x1, q1, q2⟩ := hB 1 hlen
  simp only [Option.some.injEq, Addr.mk.injEq, and_true] at e
  obtain ⟨rfl, rfl⟩ := e
  simp only [Nat.add_zero] at x0
  have E : Hid (val f 1 = bits .or .u64 (f 0 % 128) (f 1 * 128)) := val_one q1 q2
  have ne := hR.ne b o rfl
  have hmask := mask127 p1 p2
  have h0' : ¬ f 0 < 128 := by omega
  have h2' : (f 1 != 0) = true := by simpa using h2
  obtain ⟨c0, c2, fr, _⟩ := hR
  clear hB h2 h0
  by_cases hc1 : cap = 2
  · subst hc1
    have hl1 : len = 2 := by omega
    subst hl1
    go_enter Ybaf.func9, Ybaf.ntmps9
    go_wp2
    go_quiet (fail)
    go_wp2
    go_ret
    exact ⟨by rw [E.out]; rfl, _, nq, rfl, fun h => by omega⟩
  · go_enter Ybaf.func9, Ybaf.ntmps9
    go_wp2
    go_quiet (fail)
    go_wp2
    go_ret
    exact ⟨by rw [E.out]; rfl, _, nq, rfl, fun h => ⟨b, o, rfl, rfl⟩⟩
end Go.Proofs.YbulkdeduFmt

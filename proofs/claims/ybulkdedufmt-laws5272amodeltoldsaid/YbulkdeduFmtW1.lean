import Derived.Test.YbulkdeduFmtRows
import Derived.WalkKit
import Derived.WalkSpells
import Derived.BigQuiet
import Derived.Deep.QuietTactic
import Derived.Deep.DeepCutAuto
import Derived.Deep.CutBlock
namespace Go.Proofs.YbulkdeduFmt
open Go.RowKit

/-- the bytes that a slice of length len shows -/
def BytesAt (w : World) (a : Option Addr) (len : Nat) (f : Nat → Int) : Prop :=
  ∀ j, j < len → ∃ b o, a = some ⟨b, o, none⟩ ∧ w.cell? ⟨b, o + j, none⟩ = some (.int .u8 (f j)) ∧ 0 ≤ f j ∧ f j ≤ 255

theorem drewN_drewN (w : World) (a b : Nat) : (w.drewN a).drewN b = w.drewN (a + b) := by simp [World.drewN, Nat.add_assoc]

set_option maxRecDepth 100000 in
set_option maxHeartbeats 1000000 in
/-- zzs5272aeq of two slices that show the same bytes -/
theorem eq_true (a1 a2 : Option Addr) (len c1 c2 : Nat) (f : Nat → Int) (w : World) (hl : len ≤ 2048) (h1 : BytesAt w a1 len f) (h2 : BytesAt w a2 len f) :
    Calls Ybaf.prog 10 #[.slice a1 len c1, .slice a2 len c2] w fun e w' => e = .returned (.bool true) ∧ ∃ d, w' = w.drewN d := by
  have H1 : Hid (BytesAt w a1 len f) := h1
  have H2 : Hid (BytesAt w a2 len f) := h2
  clear h1 h2
  go_enter Ybaf.func10, Ybaf.ntmps10
  go_wp2
  go_loopw [5] (fun iv wr => ∃ k : Nat, k ≤ len ∧ iv = .int .i64 k ∧ ∃ d, wr = w.drewN d) (fun iv _ => len - (intOf iv).toNat)
  case atStart => exact ⟨0, Nat.zero_le _, rfl, 0, rfl⟩
  case round =>
    obtain ⟨k, hk, rfl, d, hd⟩ := hrel
    have HD : Hid (wr = w.drewN d) := hd
    by_cases hlt : k < len
    · obtain ⟨b1, o1, rfl, x1, p1, p2⟩ := H1.out k hlt
      obtain ⟨b2, o2, rfl, x2, _, _⟩ := H2.out k hlt
      have y1 : wr.cell? ⟨b1, o1 + k, none⟩ = some (.int .u8 (f k)) := by rw [hd]; exact x1
      have y2 : wr.cell? ⟨b2, o2 + k, none⟩ = some (.int .u8 (f k)) := by rw [hd]; exact x2
      clear hd x1 x2
      go_wp2
      go_quiet (fail)
      go_wp2
      go_roundw
      case rel => exact ⟨k + 1, by omega, by go_num, d + nq, by rw [HD.out, drewN_drewN]⟩
      case measure => simp [intOf]; omega
    · clear hd
      go_wp2
      go_ret
      exact ⟨rfl, d, HD.out⟩

/-! ### where a uvarint stops -/
/-- the bytes below s go on; at s it stops: the end, ten bytes, or a byte below 128 -/
structure Stop (f : Nat → Int) (len s : Nat) : Prop where
  le : s ≤ len
  ten : s ≤ 10
  more : ∀ j, j < s → 128 ≤ f j
  stop : s < len → s < 10 → f s < 128

/-- what has been gathered before byte i -/
def acc (f : Nat → Int) : Nat → Int
  | 0 => 0
  | i + 1 => bits .or .u64 (acc f i) (IntKind.u64.wrap (f i % 128 * 2 ^ (7 * i)))
/-- the value, where it stops at s -/
def val (f : Nat → Int) (s : Nat) : Int := bits .or .u64 (acc f s) (IntKind.u64.wrap (f s * 2 ^ (7 * s)))

theorem mask127 {c : Int} (h₀ : 0 ≤ c) (h₁ : c ≤ 255) : bits .and .u8 c 127 = c % 128 := bits_mask .u8 8 (by decide) wraps_u8 7 (by decide) c h₀ (by omega)

/-- what binary.Uvarint answers -/
def uvRes (f : Nat → Int) (len s : Nat) : Int × Int :=
  if len ≤ s then (0, 0) else if s = 10 then (0, -11) else if s = 9 ∧ 1 < f 9 then (0, -10) else (val f s, s + 1)

set_option maxRecDepth 100000 in
set_option maxHeartbeats 1000000 in
theorem uv_any (a : Option Addr) (len cap s : Nat) (f : Nat → Int) (w : World) (hl : len ≤ 2048) (hB : BytesAt w a len f) (hS : Stop f len s) :
    Calls Ybaf.prog 23 #[.slice a len cap] w fun e w' => e = .returned (.tuple #[.int .u64 (uvRes f len s).1, .int .i64 (uvRes f len s).2]) ∧ w' = w := by
  have HB : Hid (BytesAt w a len f) := hB
  have HS : Hid (Stop f len s) := hS
  have hsl := hS.le
  have hs10 := hS.ten
  clear hB hS
  go_enter Ybaf.func23, Ybaf.ntmps23
  go_wp2
  go_loop [4, 5, 10] (fun xv sv iv => ∃ i : Nat, i ≤ s ∧ xv = .int .u64 (acc f i) ∧ sv = .int .u64 (7 * (i : Int)) ∧ iv = .int .i64 i) (fun _ _ iv => s - (intOf iv).toNat)
  case atStart => exact ⟨0, Nat.zero_le _, rfl, rfl, rfl⟩
  case round =>
    obtain ⟨i, his, rfl, rfl, rfl⟩ := hrel
    by_cases hlt : i < s
    · obtain ⟨b, o, rfl, x1, p1, p2⟩ := HB.out i (by omega)
      have h128 : ¬ f i < 128 := by have := HS.out.more i hlt; omega
      have hmask := mask127 p1 p2
      have hi10 : ((i : Int) == 10) = false := by simp; omega
      have hi10' : i < 10 := by omega
      go_wp2
      go_round
      case rel => exact ⟨i + 1, by omega, rfl, by go_num, by go_num⟩
      case measure => simp [intOf]; omega
    · obtain rfl : i = s := by omega
      by_cases hlen : i < len
      · obtain ⟨b, o, rfl, x1, p1, p2⟩ := HB.out i hlen
        have e1 : ¬ len ≤ i := by omega
        by_cases h10 : i = 10
        · subst h10
          have E2 : Hid (uvRes f len 10 = (0, -11)) := by show _ = _; unfold uvRes; rw [if_neg e1, if_pos rfl]
          go_wp2
          go_ret2
          exact ⟨by rw [E2.out]; rfl, rfl⟩
        · have h128 : f i < 128 := HS.out.stop hlen (by omega)
          have hi10 : ((i : Int) == 10) = false := by simp; omega
          have hi10' : i < 10 := by omega
          by_cases h9 : i = 9
          · have hi9 : ((i : Int) == 9) = true := by simp; omega
            have e9 : f 9 = f i := by rw [h9]
            by_cases hb : 1 < f i
            · have E2 : Hid (uvRes f len i = (0, -((i : Int) + 1))) := by show _ = _; unfold uvRes; rw [if_neg e1, if_neg h10, e9, if_pos ⟨h9, hb⟩, h9]; rfl
              have hb' : decide (1 < f i) = true := decide_eq_true hb
              clear e9 h9
              go_wp2
              go_ret2
              exact ⟨by rw [E2.out]; first | rfl | (simp; done), rfl⟩
            · have E2 : Hid (uvRes f len i = (val f i, (i : Int) + 1)) := by show _ = _; unfold uvRes; rw [if_neg e1, if_neg h10, e9, if_neg (fun h => hb h.2)]
              have hb' : decide (1 < f i) = false := decide_eq_false hb
              clear e9 h9
              go_wp2
              go_ret2
              exact ⟨by rw [E2.out]; rfl, rfl⟩
          · have E2 : Hid (uvRes f len i = (val f i, (i : Int) + 1)) := by show _ = _; unfold uvRes; rw [if_neg e1, if_neg h10, if_neg (fun h => h9 h.1)]
            have hi9 : ((i : Int) == 9) = false := by simp; omega
            go_wp2
            go_ret2
            exact ⟨by rw [E2.out]; rfl, rfl⟩
      · have E2 : Hid (uvRes f len i = (0, 0)) := by show _ = _; unfold uvRes; rw [if_pos (by omega)]
        go_wp2
        go_ret2
        exact ⟨by rw [E2.out]; rfl, rfl⟩
end Go.Proofs.YbulkdeduFmt

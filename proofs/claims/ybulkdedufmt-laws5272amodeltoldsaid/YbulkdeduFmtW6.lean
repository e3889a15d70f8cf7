import Derived.Test.YbulkdeduFmtW5
import Derived.OwnWalk
namespace Go.Proofs.YbulkdeduFmt
open Go.RowKit

set_option maxRecDepth 100000 in
set_option maxHeartbeats 1000000 in
/-- no well-formed shortest uvarint: uvarint keeps an error -/
theorem uvarint_bad (rb : Nat) (a : Option Addr) (len cap s : Nat) (f : Nat → Int) (what : ByteArray) (w : World) (hl : len ≤ 2048) (hB : BytesAt w a len f) (hR : RW w rb a len cap .nilIface) (hS : Stop f len s) (hG : ¬ Good f len s) :
    Calls Ybaf.prog 9 #[.pointer (some ⟨rb, 0, none⟩), .string what] w fun e w' => e = .returned (.int .u64 0) ∧ Fail w rb w' := by
  have HL := long_bad rb a len cap s f what w hl hB hR hS hG
  obtain ⟨c0, c2, fr, _⟩ := hR
  by_cases h0 : len = 0
  · subst h0
    clear hB hS hG
    go_enter Ybaf.func9, Ybaf.ntmps9
    go_wp2_with fail
    refine HL.mono ?_
    rintro e w' ⟨rfl, hF⟩
    clear HL
    have HF : Hid (Fail w rb w') := hF
    clear hF
    go_wp2
    go_ret
    exact ⟨rfl, HF.out⟩
  · obtain ⟨b, o, rfl, x0, p1, p2⟩ := hB 0 (by omega)
    simp only [Nat.add_zero] at x0
    have hlen : 0 < len := by omega
    have hs0 : s ≠ 0 := by
      rintro rfl
      exact hG ⟨hS, by omega, by omega, fun e => by omega, fun h => by omega⟩
    have g0 : ¬ f 0 < 128 := by have := hS.more 0 (by omega); omega
    by_cases h1 : len = 1
    · subst h1
      clear hB hS hG
      go_enter Ybaf.func9, Ybaf.ntmps9
      go_wp2_with fail
      refine HL.mono ?_
      rintro e w' ⟨rfl, hF⟩
      clear HL
      have HF : Hid (Fail w rb w') := hF
      clear hF
      go_wp2
      go_ret
      exact ⟨rfl, HF.out⟩
    · obtain ⟨b', o', e, x1, q1, q2⟩ := hB 1 (by omega)
      simp only [Option.some.injEq, Addr.mk.injEq, and_true] at e
      obtain ⟨rfl, rfl⟩ := e
      have hlen1 : 1 < len := by omega
      by_cases g1 : f 1 < 128
      · have hz : f 1 = 0 := by
          have h2 : s = 1 := by
            have := hS.more 1
            omega
          subst h2
          exact Classical.byContradiction fun hn => hG ⟨hS, by omega, by omega, fun e => by omega, fun _ => hn⟩
        rw [hz] at x1
        clear hB hS hG g1 hz
        go_enter Ybaf.func9, Ybaf.ntmps9
        go_wp2_with fail
        refine HL.mono ?_
        rintro e w' ⟨rfl, hF⟩
        clear HL
        have HF : Hid (Fail w rb w') := hF
        clear hF
        go_wp2
        go_ret
        exact ⟨rfl, HF.out⟩
      · have g1' : decide (f 1 < 128) = false := decide_eq_false g1
        clear hB hS hG
        go_enter Ybaf.func9, Ybaf.ntmps9
        go_wp2_with fail
        refine HL.mono ?_
        rintro e w' ⟨rfl, hF⟩
        clear HL
        have HF : Hid (Fail w rb w') := hF
        clear hF
        go_wp2
        go_ret
        exact ⟨rfl, HF.out⟩

set_option maxRecDepth 100000 in
set_option maxHeartbeats 1000000 in
/-- an earlier error stands -/
theorem uvarint_pre (rb : Nat) (what : ByteArray) (w : World) (u : TypeId) (x : Value) (c2 : w.cell? ⟨rb, 2, none⟩ = some (.iface u x)) :
    Calls Ybaf.prog 9 #[.pointer (some ⟨rb, 0, none⟩), .string what] w fun e w' => e = .returned (.int .u64 0) ∧ w' = w := by
  go_enter Ybaf.func9, Ybaf.ntmps9
  go_wp2
  go_ret
  exact ⟨rfl, rfl⟩

theorem errNew (x : ByteArray) (w : World) : Calls Ybaf.prog 8 #[.string x] w fun e w' => e = .returned (.iface 94 (.pointer (some ⟨w.heap.size, 0, none⟩))) ∧ w' = w.alloc (.cells #[.string x] 96) := by
  go_enter Ybaf.func8, Ybaf.ntmps8
  go_wp2
  go_ret
  exact ⟨rfl, rfl⟩

/-- what zzs5272adecode answers -/
def decRes (f : Nat → Int) (len s : Nat) : Int × Int × Bool :=
  if len ≤ s then (0, 0, false) else if s = 10 then (0, 0, false) else if s = 9 ∧ 1 < f 9 then (0, 0, false) else if 0 < s ∧ f s = 0 then (0, 0, false) else (val f s, s + 1, true)
theorem Good.dec {f : Nat → Int} {len s : Nat} (h : Good f len s) : decRes f len s = (val f s, (s : Int) + 1, true) := by
  have h1 := h.lt
  have h2 := h.nine
  have h3 := h.top
  unfold decRes
  rw [if_neg (by omega), if_neg (by omega), if_neg (by rintro ⟨a, b⟩; have := h3 a; omega), if_neg (fun hc => h.short hc.1 hc.2)]
theorem dec_bad {f : Nat → Int} {len s : Nat} (hS : Stop f len s) (h : ¬ Good f len s) : decRes f len s = (0, 0, false) := by
  unfold decRes
  split
  · rfl
  · split
    · rfl
    · split
      · rfl
      · split
        · rfl
        · rename_i h0 h1 h2 h3
          have h10 := hS.ten
          exact absurd ⟨hS, by omega, by omega, fun e => by have := fun h => h2 ⟨e, h⟩; omega, fun hp hq => h3 ⟨hp, hq⟩⟩ h

set_option maxRecDepth 100000 in
set_option maxHeartbeats 1000000 in
theorem dec_any (a : Option Addr) (len cap s : Nat) (f : Nat → Int) (w : World) (hl : len ≤ 2048) (hB : BytesAt w a len f) (hS : Stop f len s) :
    Calls Ybaf.prog 11 #[.slice a len cap] w fun e w' => e = .returned (.tuple #[.int .u64 (decRes f len s).1, .int .i64 (decRes f len s).2.1, .bool (decRes f len s).2.2]) ∧ w' = w := by
  have HB : Hid (BytesAt w a len f) := hB
  have HS : Hid (Stop f len s) := hS
  have hsl := hS.le
  have hs10 := hS.ten
  clear hB hS
  go_enter Ybaf.func11, Ybaf.ntmps11
  go_wp2
  go_loop [5, 6, 7] (fun xv sv iv => ∃ i : Nat, i ≤ s ∧ xv = .int .u64 (acc f i) ∧ sv = .int .u64 (7 * (i : Int)) ∧ iv = .int .i64 i) (fun _ _ iv => s - (intOf iv).toNat)
  case atStart => exact ⟨0, Nat.zero_le _, rfl, rfl, rfl⟩
  case round =>
    obtain ⟨i, his, rfl, rfl, rfl⟩ := hrel
    by_cases hlt : i < s
    · obtain ⟨b, o, rfl, x1, p1, p2⟩ := HB.out i (by omega)
      have h128 : ¬ f i < 128 := by have := HS.out.more i hlt; omega
      have hmask := mask127 p1 p2
      have hi10 : ((i : Int) == 10) = false := by simp; omega
      have hi10' : i < 10 := by omega
      go_wp2
      go_round
      case rel => exact ⟨i + 1, by omega, rfl, by go_num, by go_num⟩
      case measure => simp [intOf]; omega
    · obtain rfl : i = s := by omega
      by_cases hlen : i < len
      · obtain ⟨b, o, rfl, x1, p1, p2⟩ := HB.out i hlen
        have e1 : ¬ len ≤ i := by omega
        by_cases h10 : i = 10
        · subst h10
          have E2 : Hid (decRes f len 10 = (0, 0, false)) := by show _ = _; unfold decRes; rw [if_neg e1, if_pos rfl]
          go_wp2
          go_ret3
          exact ⟨by rw [E2.out]; rfl, rfl⟩
        · have h128 : f i < 128 := HS.out.stop hlen (by omega)
          have hi10 : ((i : Int) == 10) = false := by simp; omega
          have hi10' : i < 10 := by omega
          by_cases h9 : i = 9 ∧ 1 < f 9
          · have E2 : Hid (decRes f len i = (0, 0, false)) := by show _ = _; unfold decRes; rw [if_neg e1, if_neg h10, if_pos h9]
            obtain ⟨rfl, hb⟩ := h9
            have hb' : decide (1 < f 9) = true := decide_eq_true hb
            go_wp2
            go_ret3
            exact ⟨by rw [E2.out]; rfl, rfl⟩
          · have hg9 : i = 9 → ¬ 1 < f i := fun e h => h9 ⟨e, by rw [e] at h; exact h⟩
            have F1 : Hid (∀ P : Prop, (((i : Int) == 9) = false → P) → (((i : Int) == 9) = true → ¬ 1 < f i → decide (1 < f i) = false → P) → P) := by
              intro P k1 k2
              by_cases e : i = 9
              · exact k2 (by simp; omega) (hg9 e) (decide_eq_false (hg9 e))
              · exact k1 (by simp; omega)
            by_cases hz : 0 < i ∧ f i = 0
            · have E2 : Hid (decRes f len i = (0, 0, false)) := by show _ = _; unfold decRes; rw [if_neg e1, if_neg h10, if_neg h9, if_pos hz]
              obtain ⟨hi0, hz⟩ := hz
              have hi0' : decide ((0 : Int) < (i : Int)) = true := decide_eq_true (by omega)
              clear hg9 h9
              refine F1.out _ (fun k1 => ?_) (fun k1 k2 k3 => ?_) <;> clear F1
              · rw [hz] at x1 h128
                clear hz
                go_wp2
                go_ret3
                exact ⟨by rw [E2.out]; rfl, rfl⟩
              · rw [hz] at x1 h128 k2 k3
                clear hz
                go_wp2
                go_ret3
                exact ⟨by rw [E2.out]; rfl, rfl⟩
            · have E2 : Hid (decRes f len i = (val f i, (i : Int) + 1, true)) := by show _ = _; unfold decRes; rw [if_neg e1, if_neg h10, if_neg h9, if_neg hz]
              have F2 : Hid (∀ P : Prop, (¬ (0 : Int) < (i : Int) → P) → ((0 : Int) < (i : Int) → (f i == 0) = false → P) → P) := by
                intro P k1 k2
                by_cases e : 0 < i
                · exact k2 (by omega) (by have := fun h => hz ⟨e, h⟩; simpa using this)
                · exact k1 (by omega)
              clear hg9 h9 hz
              refine F1.out _ (fun k1 => ?_) (fun k1 k2 k3 => ?_) <;> clear F1
              · refine F2.out _ (fun j1 => ?_) (fun j1 j2 => ?_) <;> clear F2
                · have j1' : decide ((0 : Int) < (i : Int)) = false := decide_eq_false j1
                  go_wp2
                  go_ret3
                  exact ⟨by rw [E2.out]; rfl, rfl⟩
                · have j1' : decide ((0 : Int) < (i : Int)) = true := decide_eq_true j1
                  go_wp2
                  go_ret3
                  exact ⟨by rw [E2.out]; rfl, rfl⟩
              · refine F2.out _ (fun j1 => ?_) (fun j1 j2 => ?_) <;> clear F2
                · have j1' : decide ((0 : Int) < (i : Int)) = false := decide_eq_false j1
                  go_wp2
                  go_ret3
                  exact ⟨by rw [E2.out]; rfl, rfl⟩
                · have j1' : decide ((0 : Int) < (i : Int)) = true := decide_eq_true j1
                  go_wp2
                  go_ret3
                  exact ⟨by rw [E2.out]; rfl, rfl⟩
      · have E2 : Hid (decRes f len i = (0, 0, false)) := by show _ = _; unfold decRes; rw [if_pos (by omega)]
        go_wp2
        go_ret3
        exact ⟨by rw [E2.out]; rfl, rfl⟩
end Go.Proofs.YbulkdeduFmt

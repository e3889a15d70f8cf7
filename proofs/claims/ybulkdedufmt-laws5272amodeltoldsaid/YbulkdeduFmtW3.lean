import Derived.Test.YbulkdeduFmtW2
namespace Go.Proofs.YbulkdeduFmt
open Go.RowKit

theorem Good.res {f : Nat → Int} {len s : Nat} (h : Good f len s) : uvRes f len s = (val f s, (s : Int) + 1) := by
  have h1 := h.lt
  have h2 := h.nine
  have h3 := h.top
  unfold uvRes
  rw [if_neg (by omega), if_neg (by omega), if_neg (by rintro ⟨a, b⟩; have := h3 a; omega)]

set_option maxRecDepth 100000 in
set_option maxHeartbeats 1000000 in
theorem long_ok (rb : Nat) (a : Option Addr) (len cap s : Nat) (f : Nat → Int) (what : ByteArray) (w : World) (hl : len ≤ 2048) (hcap : len ≤ cap) (hcp : cap ≤ 9223372036854775807) (hB : BytesAt w a len f) (hR : RW w rb a len cap .nilIface) (hG : Good f len s) :
    Calls Ybaf.prog 17 #[.pointer (some ⟨rb, 0, none⟩), .string what] w fun e w' => e = .returned (.int .u64 (val f s)) ∧ ∃ a' d, w' = (w.setCell ⟨rb, 0, none⟩ (.slice a' (len - (s + 1)) (cap - (s + 1)))).drewN d ∧ Cut a (s + 1) len a' := by
  have hs := hG.lt
  have hs9 := hG.nine
  obtain ⟨b, o, rfl, x0, p1, p2⟩ := hB s hs
  have ne := hR.ne b o rfl
  have HU := uv_any (some ⟨b, o, none⟩) len cap s f w hl hB hG.st
  rw [hG.res] at HU
  obtain ⟨c0, c2, fr, _⟩ := hR
  have hsh := hG.short
  clear hB hG
  go_enter Ybaf.func17, Ybaf.ntmps17
  go_wp2_with fail
  refine HU.mono ?_
  rintro e w' ⟨rfl, rfl⟩
  clear HU
  obtain ⟨sz, hsz⟩ : ∃ sz : Nat, s + 1 = sz := ⟨s + 1, rfl⟩
  have hszi : (s : Int) + 1 = (sz : Int) := by omega
  have hz0 : ((sz : Int) == 0) = false := by simp; omega
  have hz1 : ¬ (sz : Int) < 0 := by omega
  have hs1 : (sz : Int) - 1 = s := by omega
  have HSZ : Hid (s + 1 = sz) := hsz
  have hsl : sz ≤ len := by omega
  have hst : s < sz := by omega
  by_cases h0 : 0 < s
  · have hsn := hsh h0
    have hfz : (f s == 0) = false := by simpa using hsn
    have hg1 : decide (1 < (sz : Int)) = true := decide_eq_true (by omega)
    have hg2 : (1 : Int) < sz := by omega
    clear hsh hsn hsz
    by_cases hc1 : cap = sz
    · subst hc1
      have hl1 : len = cap := by omega
      subst hl1
      go_wp2
      go_ret
      exact ⟨rfl, some ⟨b, o, none⟩, 0, by rw [HSZ.out, Nat.sub_self]; rfl, fun h => by have := HSZ.out; omega⟩
    · go_wp2
      go_ret
      exact ⟨rfl, _, 0, by rw [HSZ.out]; rfl, fun h => ⟨b, o, rfl, by rw [HSZ.out]⟩⟩
  · have hg1 : decide (1 < (sz : Int)) = false := decide_eq_false (by omega)
    have hg2 : ¬ (1 : Int) < sz := by omega
    clear hsh hsz
    by_cases hc1 : cap = sz
    · subst hc1
      have hl1 : len = cap := by omega
      subst hl1
      go_wp2
      go_ret
      exact ⟨rfl, some ⟨b, o, none⟩, 0, by rw [HSZ.out, Nat.sub_self]; rfl, fun h => by have := HSZ.out; omega⟩
    · go_wp2
      go_ret
      exact ⟨rfl, _, 0, by rw [HSZ.out]; rfl, fun h => ⟨b, o, rfl, by rw [HSZ.out]⟩⟩

set_option maxRecDepth 100000 in
set_option maxHeartbeats 1000000 in
/-- a well-formed shortest uvarint is read -/
theorem uvarint_ok (rb : Nat) (a : Option Addr) (len cap s : Nat) (f : Nat → Int) (what : ByteArray) (w : World) (hl : len ≤ 2048) (hcap : len ≤ cap) (hcp : cap ≤ 9223372036854775807) (hB : BytesAt w a len f) (hR : RW w rb a len cap .nilIface) (hG : Good f len s) :
    Calls Ybaf.prog 9 #[.pointer (some ⟨rb, 0, none⟩), .string what] w fun e w' => e = .returned (.int .u64 (val f s)) ∧ ∃ a' d, w' = (w.setCell ⟨rb, 0, none⟩ (.slice a' (len - (s + 1)) (cap - (s + 1)))).drewN d ∧ Cut a (s + 1) len a' := by
  have hs := hG.lt
  have hs9 := hG.nine
  by_cases h0 : s = 0
  · subst h0
    exact uvarint_one rb a len cap f what w hl hcap hcp hB hR hs (hG.st.stop hs hs9)
  · by_cases h1 : s = 1
    · subst h1
      exact uvarint_two rb a len cap f what w hl hcap hcp hB hR hs (hG.st.more 0 (by omega)) (hG.st.stop hs hs9) (hG.short (by omega))
    · have HL := long_ok rb a len cap s f what w hl hcap hcp hB hR hG
      obtain ⟨b, o, rfl, x0, p1, p2⟩ := hB 0 (by omega)
      obtain ⟨b', o', e, x1, q1, q2⟩ := hB 1 (by omega)
      simp only [Option.some.injEq, Addr.mk.injEq, and_true] at e
      obtain ⟨rfl, rfl⟩ := e
      simp only [Nat.add_zero] at x0
      have g0 : ¬ f 0 < 128 := by have := hG.st.more 0 (by omega); omega
      have g1 : ¬ f 1 < 128 := by have := hG.st.more 1 (by omega); omega
      have g1' : decide (f 1 < 128) = false := decide_eq_false g1
      have hlen : 1 < len := by omega
      obtain ⟨c0, c2, fr, _⟩ := hR
      clear hB hG
      go_enter Ybaf.func9, Ybaf.ntmps9
      go_wp2_with fail
      refine HL.mono ?_
      rintro e w' ⟨rfl, a', d, rfl, hC⟩
      clear HL
      have HC : Hid (Cut (some ⟨b, o, none⟩) (s + 1) len a') := hC
      clear hC
      go_wp2
      go_ret
      exact ⟨rfl, a', d, rfl, HC.out⟩
end Go.Proofs.YbulkdeduFmt

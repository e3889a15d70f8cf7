import Derived.Test.YbulkdecsBack
import Derived.BigQuiet
import Derived.Deep.QuietTactic
import Derived.Deep.DeepCutAuto
import Derived.Deep.CutBlock
namespace Go.Proofs.Ybulkdecs
open Go.RowKit Go.Shelf

/-- the acks as they came in -/
def AcksAt (w : World) (a : Option Addr) (len : Nat) (ak : Nat → Int) : Prop :=
  ∀ j, j < len → ∃ b off, a = some ⟨b, off, none⟩ ∧ b < w.heap.size ∧ w.cell? ⟨b, off + j, none⟩ = some (.int .u64 (ak j))

theorem info42 : (Yba.prog.info? 42).map (fun i => (i.zero.isSome, i.size, decide (i.bytes ≤ 100000))) = some (true, 78, true) := by kernel_rfl

def aggOk (v : Option Value) : Bool := match v with | some (.agg cs) => decide (57 ≤ cs.size) | _ => false
theorem info66 : (Yba.prog.info? 66).map (fun i => aggOk i.zero) = some true := by kernel_rfl
/-- an engine's zero value -/
theorem zero66 : ∃ Z : Array Value, 57 ≤ Z.size ∧ ∀ w : World, (zeroValue 66).run Yba.prog w = .ok (.agg Z) w := by
  have h := info66
  cases hi : Yba.prog.info? 66 with
  | none => rw [hi] at h; cases h
  | some i =>
    rw [hi] at h
    simp only [Option.map_some, Option.some.injEq] at h
    cases hz : i.zero with
    | none => rw [hz] at h; cases h
    | some z =>
      rw [hz] at h
      cases z with
      | agg cs =>
        refine ⟨cs, by simpa [aggOk] using h, fun w => ?_⟩
        simp [zeroValue, typeInfo, hi, hz]
      | _ => cases h

/-- what 'make([]peerState, n)' lays -/
theorem make25 (n : Nat) (hn : n ≤ 1024) : ∃ cs : Array Value, cs.size = n * 78 ∧ ∀ w : World, (Instr.makeSlice 25 (.int .i64 n) (.int .i64 n)).run Yba.prog w = .ok (.slice (some ⟨w.heap.size, 0, none⟩) n n) (w.alloc (.cells cs 42)) := by
  have h := info42
  cases hi : Yba.prog.info? 42 with
  | none => rw [hi] at h; cases h
  | some i =>
    rw [hi] at h
    simp only [Option.map_some, Option.some.injEq, Prod.mk.injEq, decide_eq_true_eq] at h
    obtain ⟨h1, h2, h3⟩ := h
    cases hz : i.zero with
    | none => rw [hz] at h1; cases h1
    | some z =>
      refine ⟨madeCells z.cells (n * 78), size_madeCells _ _, fun w => ?_⟩
      have hb : (i.bytes : Int) * n ≤ 281474976710656 := by
        have : i.bytes * n ≤ 100000 * 1024 := Nat.mul_le_mul h3 hn
        have h' : ((i.bytes * n : Nat) : Int) ≤ 281474976710656 := by omega
        rwa [Int.natCast_mul] at h'
      have := run_make (P := Yba.prog) w 25 42 i z Yba.underlying25 hi hz .i64 .i64 n n (by omega) (by omega) hb (by omega)
      rw [h2] at this
      exact this

/-- the engine as it is made -/
structure EW0 (w : World) (pb eb n : Nat) (sf : Int) : Prop where
  c0 : w.cell? ⟨eb, 0, none⟩ = some (.int .i64 sf)
  c3 : w.cell? ⟨eb, 3, none⟩ = some (.slice (some ⟨pb, 0, none⟩) n n)
  c10 : ∃ v, w.cell? ⟨eb, 10, none⟩ = some v
  c21 : ∃ v, w.cell? ⟨eb, 21, none⟩ = some v
  fr : ∀ o, w.frozen? ⟨eb, o, none⟩ = false
theorem EW0.start (w : World) (pb n : Nat) (sf : Int) (Z : Array Value) (hZ : 57 ≤ Z.size) :
    EW0 (w.alloc (.cells ((Z.setIfInBounds 0 (.int .i64 sf)).setIfInBounds 3 (.slice (some ⟨pb, 0, none⟩) n n)) 66)) pb w.heap.size n sf := by
  refine ⟨?_, ?_, ?_, ?_, fun o => World.frozen?_alloc_at _ _ _ _ rfl⟩
  · rw [World.cell?_alloc_at _ _ _ _ rfl, Array.getElem?_setIfInBounds_ne (by omega), Array.getElem?_setIfInBounds_self_of_lt (by omega)]
  · rw [World.cell?_alloc_at _ _ _ _ rfl, Array.getElem?_setIfInBounds_self_of_lt (by simp; omega)]
  · rw [World.cell?_alloc_at _ _ _ _ rfl, Array.getElem?_setIfInBounds_ne (by omega), Array.getElem?_setIfInBounds_ne (by omega)]
    exact ⟨_, Array.getElem?_eq_getElem (by omega)⟩
  · rw [World.cell?_alloc_at _ _ _ _ rfl, Array.getElem?_setIfInBounds_ne (by omega), Array.getElem?_setIfInBounds_ne (by omega)]
    exact ⟨_, Array.getElem?_eq_getElem (by omega)⟩

/-- the peers' counts in memory -/
structure PW (w : World) (pb n : Nat) (f : Nat → Value) : Prop where
  cell : ∀ j, j < n → w.cell? ⟨pb, j * 78 + 66, none⟩ = some (f j)
  fr : ∀ o, w.frozen? ⟨pb, o, none⟩ = false
def updV (f : Nat → Value) (k : Nat) (v : Value) : Nat → Value := fun j => if j = k then v else f j
theorem PW.set {w : World} {pb n : Nat} {f : Nat → Value} (h : PW w pb n f) {k : Nat} (hk : k < n) (v : Value) : PW (w.setCell ⟨pb, k * 78 + 66, none⟩ v) pb n (updV f k v) := by
  refine ⟨fun j hj => ?_, fun o => by rw [World.frozen?_setCell]; exact h.fr o⟩
  unfold updV
  by_cases e : j = k
  · subst e; rw [World.cell?_setCell_same _ _ _ (h.cell j hj), if_pos rfl]
  · rw [World.cell?_setCell_other _ _ _ _ (by intro e'; simp only [Addr.mk.injEq] at e'; omega), if_neg e]; exact h.cell j hj
theorem PW.alloc {w : World} {pb n : Nat} {f : Nat → Value} (h : PW w pb n f) (hl : pb < w.heap.size) (o : Obj) : PW (w.alloc o) pb n f :=
  ⟨fun j hj => (World.cell?_alloc_past o pb _ hl).trans (h.cell j hj), fun x => (World.frozen?_alloc_past o pb x hl).trans (h.fr x)⟩
theorem PW.ext {w : World} {pb n : Nat} {f g : Nat → Value} (h : PW w pb n f) (he : ∀ j, j < n → f j = g j) : PW w pb n g := ⟨fun j hj => by rw [← he j hj]; exact h.cell j hj, h.fr⟩
theorem upd_done {f : Nat → Value} {ak : Nat → Int} {k : Nat} (h : ∀ j, j < k → f j = .int .u64 (ak j)) (j : Nat) (hj : j < k + 1) : updV f k (.int .u64 (ak k)) j = .int .u64 (ak j) := by
  unfold updV
  by_cases e : j = k
  · rw [if_pos e, e]
  · rw [if_neg e]; exact h j (by omega)
theorem PW.start (w : World) (n : Nat) (cs : Array Value) (hcs : cs.size = n * 78) : PW (w.alloc (.cells cs 42)) w.heap.size n (fun j => cs.getD (j * 78 + 66) undef) := by
  refine ⟨fun j hj => ?_, fun o => World.frozen?_alloc_at _ _ _ _ rfl⟩
  rw [World.cell?_alloc_at _ _ _ _ rfl]
  have : j * 78 + 66 < cs.size := by omega
  simp [Array.getD, this]

def wantB (sf members sent : Int) (ak : Nat → Int) (len i : Nat) : Bool := (List.range i).any (fun j => sel sf members j && waits sent ak len j)
theorem wantB_succ (sf members sent : Int) (ak : Nat → Int) (len i : Nat) : wantB sf members sent ak len (i + 1) = (wantB sf members sent ak len i || (sel sf members i && waits sent ak len i)) := by
  unfold wantB; rw [List.range_succ, List.any_append]; simp
theorem wantB_all (sf members sent : Int) (ak : Nat → Int) (len : Nat) : wantB sf members sent ak len len = backed sf members sent ak len := by
  unfold wantB backed uptoS; rw [List.any_filter]

theorem EngW.start {wc : World} {pb eb n : Nat} {sf mem sent : Int} {ak : Nat → Int} {v10 v21 : Value} (hE : EW0 wc pb eb n sf) (hP : PW wc pb n (fun j => .int .u64 (ak j))) (e10 : wc.cell? ⟨eb, 10, none⟩ = some v10) (e21 : wc.cell? ⟨eb, 21, none⟩ = some v21) (hlt : pb < eb) :
    EngW ((wc.setCell ⟨eb, 21, none⟩ (.int .u64 sent)).setCell ⟨eb, 10, none⟩ (.int .u64 mem)) wc.heap.size eb pb n sf mem sent ak := by
  have ne : ∀ {b b' o o' : Nat}, (b ≠ b' ∨ o ≠ o') → (⟨b, o, none⟩ : Addr) ≠ ⟨b', o', none⟩ := by
    intro b b' o o' h e; simp only [Addr.mk.injEq] at e; rcases h with h | h <;> omega
  have l1 : eb < wc.heap.size := World.block_lt_of_cell? (a := ⟨eb, 0, none⟩) _ hE.c0
  refine ⟨?_, ?_, ?_, ?_, fun j hj => ?_, l1, by omega⟩
  · rw [World.cell?_setCell_other _ _ _ _ (ne (by omega)), World.cell?_setCell_other _ _ _ _ (ne (by omega))]; exact hE.c0
  · rw [World.cell?_setCell_other _ _ _ _ (ne (by omega)), World.cell?_setCell_other _ _ _ _ (ne (by omega))]; exact hE.c3
  · rw [World.cell?_setCell_same _ _ _ (u := v10) (by rw [World.cell?_setCell_other _ _ _ _ (ne (by omega))]; exact e10)]
  · rw [World.cell?_setCell_other _ _ _ _ (ne (by omega)), World.cell?_setCell_same _ _ _ e21]
  · rw [World.cell?_setCell_other _ _ _ _ (ne (by omega)), World.cell?_setCell_other _ _ _ _ (ne (by omega))]; exact hP.cell j hj

/-- THE WORLD UNDER A NAME OF ITS OWN: all that is known of it is F. -/
theorem absW {P : World → Prop} {w : World} (F : World → Prop) (hF : F w) (h : ∀ W, F W → P W) : P w := h w hF

set_option maxRecDepth 100000 in
set_option maxHeartbeats 2000000 in
theorem exact_any (a : Option Addr) (len cap : Nat) (ak : Nat → Int) (mem sf sl d : Int) (w : World) (hA : AcksAt w a len ak) (hm0 : 0 ≤ mem) (hm1 : mem < 18446744073709551616) (hs0 : 0 ≤ sl) (hs1 : sl ≤ 255) (hd0 : -128 ≤ d) (hd1 : d ≤ 127) :
    Calls Yba.prog 3 #[.slice a len cap, .int .u64 mem, .int .i64 sf, .int .u8 sl, .int .i8 d] w fun e w' => e = .returned (.bool true) ∧ Below w.heap.size w w' := by
  by_cases hl : (1024 : Int) < len
  · go_enter Yba.func3, Yba.ntmps3
    go_wp2
    go_ret
    exact ⟨rfl, Below.refl _ _⟩
  · obtain ⟨cs, hcs, hmk⟩ := make25 len (by omega)
    go_enter Yba.func3, Yba.ntmps3
    go_upto_if 28 with fail
    go_cut [12] (fun v w' => v = .int .u64 (win len) ∧ w = w')
    case first =>
      by_cases h4 : 4 * (len : Int) < 64
      · have hw : win len = 64 := by unfold win; rw [if_pos h4]
        go_wp2
        go_meet
        case rel => exact ⟨by rw [hw], rfl⟩
      · have hw : win len = 4 * len := by unfold win; rw [if_neg h4]
        go_wp2
        go_meet
        case rel => exact ⟨by rw [hw], rfl⟩
    case rest =>
      obtain ⟨rfl, rfl⟩ := hcut
      go_upto_if 30 with fail
      go_cut [13] (fun v w' => (∃ sent : Int, v = .int .u64 sent) ∧ w = w')
      case first =>
        by_cases h0 : (0 : Int) < len
        · obtain ⟨i, hi⟩ : ∃ i : Nat, sl % (len : Int) = (i : Int) := ⟨(sl % (len : Int)).toNat, by have := Int.emod_nonneg sl (show (len : Int) ≠ 0 by omega); omega⟩
          have hil : i < len := by have := Int.emod_lt_of_pos sl h0; omega
          obtain ⟨b, off, rfl, hb, hc⟩ := hA i hil
          clear hA hmk
          go_wp2
          go_meet
          case rel => exact ⟨⟨_, rfl⟩, rfl⟩
        · clear hA hmk
          go_wp2
          go_meet
          case rel => exact ⟨⟨_, rfl⟩, rfl⟩
      case rest =>
        obtain ⟨⟨sent, rfl⟩, rfl⟩ := hcut
        have HA : Hid (AcksAt w a len ak) := hA
        clear hA
        go_wp2
        go_loopw [15] (fun iv wr => ∃ (k : Nat) (f : Nat → Value), k ≤ len ∧ iv = .int .i64 k ∧ (∀ j, j < k → f j = .int .u64 (ak j)) ∧ PW wr w.heap.size len f ∧ Below w.heap.size w wr ∧ w.heap.size < wr.heap.size)
          (fun iv _ => len - (intOf iv).toNat)
        case atStart => exact ⟨0, _, Nat.zero_le _, rfl, fun j hj => by omega, PW.start w len cs hcs, (Below.refl _ w).alloc (Nat.le_refl _) _, by simp⟩
        case round =>
          clear hmk
          obtain ⟨k, f, hk, rfl, hf, hP, hB, hsz⟩ := hrel
          have HSZ : Hid (w.heap.size < wr.heap.size) := hsz
          clear hsz
          by_cases hlt : k < len
          · obtain ⟨b, off, rfl, hb, hc⟩ := HA.out k hlt
            have c0 := (hB.cell (p := ⟨b, off + k, none⟩) hb).trans hc
            have d0 := hP.cell k hlt
            have f0 := hP.fr
            have HF : Hid (∀ j, j < k → f j = .int .u64 (ak j)) := hf
            have HP : Hid (PW wr w.heap.size len f) := hP
            have HB : Hid (Below w.heap.size w wr) := hB
            clear hf hP hB hc
            go_wp2
            go_roundw
            case rel => exact ⟨k + 1, _, by omega, by go_num, upd_done HF.out, HP.out.set hlt _, HB.out.setCell (Nat.le_refl _) _, by have := HSZ.out; simpa using this⟩
            case measure => simp [intOf]; omega
          · obtain rfl : k = len := by omega
            have hP' : PW wr w.heap.size k (fun j => .int .u64 (ak j)) := hP.ext hf
            have HP : Hid (PW wr w.heap.size k (fun j => .int .u64 (ak j))) := hP'
            have HB : Hid (Below w.heap.size w wr) := hB
            clear hf hP hB hP'
            obtain ⟨Z, hZ, hz66⟩ := zero66
            have hZ1 : ¬ Z = #[] := by intro e; rw [e] at hZ; simp at hZ
            have hZ2 : ¬ Z.size < 4 := by omega
            go_upto_region 15 with fail
            go_cut [16] (fun v w' => ∃ eb, v = .pointer (some ⟨eb, 0, none⟩) ∧ EW0 w' w.heap.size eb k sf ∧ PW w' w.heap.size k (fun j => .int .u64 (ak j)) ∧ Below w.heap.size w w' ∧ w.heap.size < eb)
            case first =>
              go_wp2
              go_meet
              case rel =>
                have hsz := HSZ.out
                exact ⟨_, rfl, EW0.start wr w.heap.size k sf Z hZ, HP.out.alloc hsz _, HB.out.alloc HB.out.size _, hsz⟩
            case rest =>
              clear HP HB hz66 hZ1 hZ2 hZ Z
              obtain ⟨eb, rfl, hEW, hP, hB, hlt⟩ := hcut
              obtain ⟨v10, e10⟩ := hEW.c10
              obtain ⟨v21, e21⟩ := hEW.c21
              have ef := hEW.fr
              have hE1 : EngW ((wc.setCell ⟨eb, 21, none⟩ (.int .u64 sent)).setCell ⟨eb, 10, none⟩ (.int .u64 mem)) wc.heap.size eb w.heap.size k sf mem sent ak := EngW.start hEW hP e10 e21 hlt
              have HE1 : Hid (EngW ((wc.setCell ⟨eb, 21, none⟩ (.int .u64 sent)).setCell ⟨eb, 10, none⟩ (.int .u64 mem)) wc.heap.size eb w.heap.size k sf mem sent ak) := hE1
              have HB : Hid (Below w.heap.size w ((wc.setCell ⟨eb, 21, none⟩ (.int .u64 sent)).setCell ⟨eb, 10, none⟩ (.int .u64 mem))) := (hB.setCell (by simp; omega) _).setCell (by simp; omega) _
              clear hEW hP hB hE1
              go_wp2_with fail
              refine absW (fun W => EngW W W.heap.size eb w.heap.size k sf mem sent ak ∧ Below w.heap.size w W) ⟨by have := HE1.out; simpa using this, HB.out⟩ ?_
              clear HE1 HB e10 e21 ef wc v10 v21
              rintro W ⟨hE, hB⟩
              have HE : Hid (EngW W W.heap.size eb w.heap.size k sf mem sent ak) := hE
              have HB : Hid (Below w.heap.size w W) := hB
              clear hE hB
              go_loop [17, 18] (fun wv iv => ∃ i : Nat, i ≤ k ∧ wv = .bool (wantB sf mem sent ak k i) ∧ iv = .int .i64 i) (fun _ iv => k - (intOf iv).toNat)
              case atStart => exact ⟨0, Nat.zero_le _, rfl, rfl⟩
              case round =>
                obtain ⟨i, hik, rfl, rfl⟩ := hrel
                by_cases hlt2 : i < k
                · obtain ⟨b, off, rfl, hb, hc⟩ := HA.out i hlt2
                  have c0 := (HB.out.cell (p := ⟨b, off + i, none⟩) hb).trans hc
                  clear hc
                  have HS : Hid (wantB sf mem sent ak k (i + 1) = (wantB sf mem sent ak k i || (sel sf mem i && waits sent ak k i))) := wantB_succ _ _ _ _ _ _
                  cases h1 : ((i : Int) != sf) with
                  | false =>
                    have HS2 : Hid (wantB sf mem sent ak k (i + 1) = wantB sf mem sent ak k i) := by show _ = _; rw [HS.out]; simp [sel, h1]
                    go_wp2
                    go_round
                    case rel => exact ⟨i + 1, by omega, by rw [HS2.out], by go_num⟩
                    case measure => simp [intOf]; omega
                  | true =>
                    by_cases h64 : i < 64
                    · have hbl := bit_law mem i hm0 hm1 h64
                      have hbl2 : (bits BinOp.and IntKind.u64 (mem / 2 ^ i) 1 == 1) = memBit mem i := by rw [← hbl, show min i 64 = i by omega]
                      cases h2 : memBit mem i with
                      | false =>
                        rw [h2] at hbl hbl2
                        have HS2 : Hid (wantB sf mem sent ak k (i + 1) = wantB sf mem sent ak k i) := by show _ = _; rw [HS.out]; simp [sel, h2]
                        clear h2
                        go_wp2
                        go_round
                        case rel => exact ⟨i + 1, by omega, by rw [HS2.out], by go_num⟩
                        case measure => simp [intOf]; omega
                      | true =>
                        rw [h2] at hbl hbl2
                        cases h3 : waits sent ak k i with
                        | false =>
                          have h4 : decide (IntKind.u64.wrap (ak i + win k) ≤ sent) = false := h3
                          have HS2 : Hid (wantB sf mem sent ak k (i + 1) = wantB sf mem sent ak k i) := by show _ = _; rw [HS.out]; simp [h3]
                          clear h2 h3
                          go_wp2
                          go_round
                          case rel => exact ⟨i + 1, by omega, by rw [HS2.out], by go_num⟩
                          case measure => simp [intOf]; omega
                        | true =>
                          have h4 : decide (IntKind.u64.wrap (ak i + win k) ≤ sent) = true := h3
                          have HS2 : Hid (wantB sf mem sent ak k (i + 1) = true) := by show _ = _; rw [HS.out]; simp [sel, h1, h2, h3]
                          clear h2 h3
                          go_wp2
                          go_round
                          case rel => exact ⟨i + 1, by omega, by rw [HS2.out], by go_num⟩
                          case measure => simp [intOf]; omega
                    · have HS2 : Hid (wantB sf mem sent ak k (i + 1) = wantB sf mem sent ak k i) := by show _ = _; rw [HS.out]; simp [sel, memBit, h64]
                      have h65 : decide ((i : Int) < 64) = false := decide_eq_false (by omega)
                      have h66 : decide (i < 64) = false := decide_eq_false (by omega)
                      go_wp2
                      go_round
                      case rel => exact ⟨i + 1, by omega, by rw [HS2.out], by go_num⟩
                      case measure => simp [intOf]; omega
                · obtain rfl : i = k := by omega
                  go_wp2_with fail
                  refine ((callsIn_wide (n := 3)).1 (backed_in 3 (by omega) eb w.heap.size i sf mem sent ak (by omega) hm0 hm1 W HE.out)).mono ?_
                  rintro e w3 ⟨rfl, hB3⟩
                  have hE3 := HE.out.below hB3
                  have hB3' := HB.out.trans (hB3.mono HB.out.size)
                  obtain ⟨d0, d3, d10, d21, dac, _, _⟩ := hE3
                  have hwb := wantB_all sf mem sent ak i
                  have HD : Hid (∀ j, j < i → w3.cell? ⟨w.heap.size, j * 78 + 66, none⟩ = some (.int .u64 (ak j))) := dac
                  have HB3 : Hid (Below w.heap.size w w3) := hB3'
                  clear HE HB hB3 hB3' dac
                  go_wp2
                  go_loopw [19] (fun iv wr => ∃ j : Nat, j ≤ i ∧ iv = .int .i64 j ∧ ∃ q, wr = w3.drewN q) (fun iv _ => i - (intOf iv).toNat)
                  case atStart => exact ⟨0, Nat.zero_le _, rfl, 0, rfl⟩
                  case round =>
                    obtain ⟨j, hj, rfl, q, hq⟩ := hrel
                    have HQ : Hid (wr = w3.drewN q) := hq
                    have x3 : wr.cell? ⟨eb, 3, none⟩ = some (.slice (some ⟨w.heap.size, 0, none⟩) i i) := by rw [hq]; exact d3
                    by_cases hlt3 : j < i
                    · obtain ⟨b, off, rfl, hb, hc⟩ := HA.out j hlt3
                      have y0 : wr.cell? ⟨b, off + j, none⟩ = some (.int .u64 (ak j)) := by rw [hq]; exact (HB3.out.cell (p := ⟨b, off + j, none⟩) hb).trans hc
                      have y1 : wr.cell? ⟨w.heap.size, j * 78 + 66, none⟩ = some (.int .u64 (ak j)) := by rw [hq]; exact HD.out j hlt3
                      clear hq hc d0 d3 d10 d21 hwb
                      go_wp2
                      go_quiet (fail)
                      go_wp2
                      go_roundw
                      case rel => exact ⟨j + 1, by omega, by go_num, q + nq, by rw [HQ.out]; simp [World.drewN, Nat.add_assoc]⟩
                      case measure => simp [intOf]; omega
                    · clear hq d0 d3 d10 d21 hwb x3
                      go_wp2
                      go_ret
                      exact ⟨rfl, by rw [HQ.out]; exact HB3.out.drewN q⟩
end Go.Proofs.Ybulkdecs

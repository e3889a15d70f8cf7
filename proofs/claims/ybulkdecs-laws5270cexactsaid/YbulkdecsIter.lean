import Derived.Test.YbulkdecsPlain
import Derived.Sort.BigQuietIn
import Derived.RangeFuncNested
import Derived.RangeFuncBound
import Derived.RangeFuncCalls
import Derived.RangeFuncLeaves
import Derived.Shelf.Abstract
import Derived.Shelf.RegionOpen
import Derived.WalkKit
import Derived.OwnWalkIn
import Derived.TacticsInMore
import Derived.LoopNIn
import Derived.LoopIn
namespace Go.Proofs.Ybulkdecs
open Go.RowKit Go.Shelf
attribute [local go_sem] Oper.semAt_some

/-- the engine in memory -/
structure EngW (w : World) (n₀ eb pb n : Nat) (sf members sent : Int) (ak : Nat → Int) : Prop where
  c0 : w.cell? ⟨eb, 0, none⟩ = some (.int .i64 sf)
  c3 : w.cell? ⟨eb, 3, none⟩ = some (.slice (some ⟨pb, 0, none⟩) n n)
  c10 : w.cell? ⟨eb, 10, none⟩ = some (.int .u64 members)
  c21 : w.cell? ⟨eb, 21, none⟩ = some (.int .u64 sent)
  ac : ∀ j, j < n → w.cell? ⟨pb, j * 78 + 66, none⟩ = some (.int .u64 (ak j))
  le : eb < n₀
  lp : pb < n₀

theorem EngW.below {w w' : World} {n₀ eb pb n : Nat} {sf members sent : Int} {ak : Nat → Int} (h : EngW w n₀ eb pb n sf members sent ak) (hb : Below n₀ w w') : EngW w' n₀ eb pb n sf members sent ak :=
  ⟨(hb.cell (p := ⟨eb, 0, none⟩) h.le).trans h.c0, (hb.cell (p := ⟨eb, 3, none⟩) h.le).trans h.c3, (hb.cell (p := ⟨eb, 10, none⟩) h.le).trans h.c10, (hb.cell (p := ⟨eb, 21, none⟩) h.le).trans h.c21, fun j hj => (hb.cell (p := ⟨pb, j * 78 + 66, none⟩) h.lp).trans (h.ac j hj), h.le, h.lp⟩

def sel (sf members : Int) (k : Nat) : Bool := ((k : Int) != sf) && memBit members k

theorem wide_depth {n : Nat} : Fence.wide.depth.isSome = true → 1 ≤ n := fun h => by cases h

theorem upto_succ (p : Nat → Bool) (k : Nat) : (List.range (k + 1)).filter p = (List.range k).filter p ++ (if p k = true then [k] else []) := by
  rw [List.range_succ, List.filter_append]; simp [List.filter_cons]
/-- what has come when k rounds are over -/
def uptoS (sf members : Int) (k : Nat) : List Nat := (List.range k).filter (sel sf members)
theorem upto_len (p : Nat → Bool) (k : Nat) : ((List.range k).filter p).length ≤ k := by
  have := List.length_filter_le p (List.range k); simpa using this

theorem _root_.Go.RowKit.Below.drewN {B : Nat} {a w : World} (h : Below B a w) (n : Nat) : Below B a (w.drewN n) := ⟨h.os, h.tape, h.output, h.size, h.block⟩

set_option maxRecDepth 100000 in
set_option maxHeartbeats 1000000 in
theorem others1_in (n : Nat) (l Bs n₀ eb pb len : Nat) (sf members sent : Int) (ak : Nat → Int) (hlen : len ≤ 1024) (hm0 : 0 ≤ members) (hm1 : members < 18446744073709551616) (J Jx : List Nat → World → Prop)
    (hJd : ∀ s W q, J s W → J s (W.drewN q))
    (hY : ∀ (pre : List Nat) (x : Nat) (W : World), x < len → J pre W → pre.length < len → YieldAt Fence.wide (n - 1) Yba.prog l #[.int .i64 (x : Int)] W fun e W' =>
      (e = .returned (.bool true) ∧ J (pre ++ [x]) W' ∧ Below n₀ W W') ∨ (e = .returned (.bool false) ∧ Jx (pre ++ [x]) W'))
    (W : World) (hBs : W.cell? ⟨Bs, 0, none⟩ = some (.pointer (some ⟨eb, 0, none⟩))) (hBn : Bs < n₀) (hE : EngW W n₀ eb pb len sf members sent ak) (h0 : J [] W) :
    CallsIn Fence.wide n Yba.prog 7 #[.func (.yield l) #[] #[], .pointer (some ⟨Bs, 0, none⟩)] W fun e W' => (∃ v, e = .returned v) ∧
      ((∃ ys, ys = uptoS sf members len ∧ J ys W') ∨ (∃ pre, (∃ k, k < len ∧ sel sf members k = true ∧ pre = uptoS sf members (k + 1)) ∧ Jx pre W')) := by
  have c3 := hE.c3
  have hmix : Yba.prog.follows Departure.mixedOrders = true := by kernel_rfl
  refine callsIn_of_wp Yba.func7 rfl trivial ?_ rfl
  simp only [Yba.ntmps7, List.size_toArray, List.length_cons, List.length_nil, Nat.reduceAdd, Nat.reduceSub, Array.replicate_succ, Array.replicate_zero, List.push_toArray, List.append_toArray, List.nil_append, List.cons_append]
  gi_wp2
  gi_loopw [9] (fun i wr => ∃ k : Nat, k ≤ len ∧ i = .int .i64 k ∧ J (uptoS sf members k) wr ∧ Below n₀ W wr)
    (fun i _ => len - (intOf i).toNat)
  case atStart => exact ⟨0, Nat.zero_le _, rfl, h0, Below.refl _ _⟩
  case round =>
    obtain ⟨k, hk, rfl, hJs, hnx⟩ := hrel
    have hb := (hnx.cell (p := ⟨Bs, 0, none⟩) hBn).trans hBs
    obtain ⟨d0, d3, d10, d21, dac, _, _⟩ := hE.below hnx
    clear c3 hBs d3 d21 dac
    have HJ : Hid (J (uptoS sf members k) wr) := hJs
    have HNX : Hid (Below n₀ W wr) := hnx
    have HL : Hid ((uptoS sf members k).length ≤ k) := upto_len _ _
    clear hJs hnx
    by_cases hlt : k < len
    · by_cases hs : ((k : Int) != sf) = true
      · cases hbit : memBit members k with
        | true =>
          have hbit' := bit_code members k hm0 hm1
          rw [hbit] at hbit'
          have HS : Hid (uptoS sf members (k + 1) = uptoS sf members k ++ [k]) := by
            show _ = _
            unfold uptoS; rw [upto_succ]; simp [sel, hs, hbit]
          have HSK : Hid (sel sf members k = true) := by show _ = _; simp [sel, hs, hbit]
          obtain ⟨fn, tmps, assign, body, hy, hR⟩ := YieldAt.mono (hY _ k wr.drew hlt (hJd _ _ 1 HJ.out) (by have := HL.out; omega)) (R' := fun e W' => ∃ b : Bool, e = .returned (.bool b) ∧ Hid ((b = true ∧ J (uptoS sf members (k + 1)) W' ∧ Below n₀ wr.drew W') ∨ (b = false ∧ Jx (uptoS sf members (k + 1)) W')))
            (fun e W' h => h.elim (fun ⟨h1, h2, h3⟩ => ⟨true, h1, .inl ⟨rfl, by rw [HS.out]; exact h2, h3⟩⟩) (fun ⟨h1, h2⟩ => ⟨false, h1, .inr ⟨rfl, by rw [HS.out]; exact h2⟩⟩))
          clear hbit hY
          gi_wp2
          gi_region_with_o (with_reducible refine ⟨wide_depth, ?_⟩; with_reducible refine hR.mono ?_; rintro e W3 ⟨bb, rfl, hbb⟩)
          cases bb with
          | true =>
            obtain ⟨_, hJ3, hk3⟩ | ⟨h, _⟩ := hbb.out
            · have HJ3 : Hid (J (uptoS sf members (k + 1)) W3) := hJ3
              have HK3 : Hid (Below n₀ wr.drew W3) := hk3
              clear hbb hJ3 hk3
              gi_wp2
              go_roundw
              case rel => exact ⟨k + 1, by omega, by go_num, HJ3.out, HNX.out.drew.trans HK3.out⟩
              case measure => simp [intOf]; omega
            · cases h
          | false =>
            obtain ⟨h, _⟩ | ⟨_, hJx3⟩ := hbb.out
            · cases h
            · have HJx3 : Hid (Jx (uptoS sf members (k + 1)) W3) := hJx3
              clear hbb hJx3
              gi_wp2
              refine bodyPost_ret (results_none rfl _ _ _) rfl ?_
              exact ⟨⟨_, rfl⟩, .inr ⟨_, ⟨k, hlt, HSK.out, rfl⟩, HJx3.out⟩⟩
        | false =>
          have hbit' := bit_code members k hm0 hm1
          rw [hbit] at hbit'
          have HS : Hid (uptoS sf members (k + 1) = uptoS sf members k) := by
            show _ = _
            unfold uptoS; rw [upto_succ]; simp [sel, hbit]
          clear hbit hY
          gi_wp2
          refine wpIn_region_quiet_lit rfl (by kernel_rfl) (by kernel_rfl) ?_
          repeat (gi_big_quiet_step (fail))
          refine BigFrame.wpQuietIn_skip (fun _ _ _ _ => trivial) rfl ?_
          simp only [Act.put, List.setIfInBounds_toArray, List.set_cons_succ, List.set_cons_zero]
          repeat (gi_big_quiet_step (fail))
          refine wpQuietIn_nil ?_
          intro _ hw'
          obtain ⟨nq, hw''⟩ := hw'
          subst hw''
          gi_wp2
          go_roundw
          case rel => exact ⟨k + 1, by omega, by go_num, by rw [HS.out]; exact hJd _ _ _ HJ.out, HNX.out.drewN _⟩
          case measure => simp [intOf]; omega
      · have hs' : ((k : Int) != sf) = false := by simpa using hs
        have HS : Hid (uptoS sf members (k + 1) = uptoS sf members k) := by
          show _ = _
          unfold uptoS; rw [upto_succ]; simp [sel, hs']
        clear hs hY
        gi_wp2
        refine wpIn_region_quiet_lit rfl (by kernel_rfl) (by kernel_rfl) ?_
        repeat (gi_big_quiet_step (fail))
        refine BigFrame.wpQuietIn_skip (fun _ _ _ _ => trivial) rfl ?_
        simp only [Act.put, List.setIfInBounds_toArray, List.set_cons_succ, List.set_cons_zero]
        repeat (gi_big_quiet_step (fail))
        refine wpQuietIn_nil ?_
        intro _ hw'
        obtain ⟨nq, hw''⟩ := hw'
        subst hw''
        gi_wp2
        go_roundw
        case rel => exact ⟨k + 1, by omega, by go_num, by rw [HS.out]; exact hJd _ _ _ HJ.out, HNX.out.drewN _⟩
        case measure => simp [intOf]; omega
    · obtain rfl : k = len := by omega
      gi_wp2
      go_end0
      exact ⟨⟨_, rfl⟩, .inl ⟨_, rfl, HJ.out⟩⟩
end Go.Proofs.Ybulkdecs

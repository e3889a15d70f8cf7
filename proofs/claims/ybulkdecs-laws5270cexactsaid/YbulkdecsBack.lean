import Derived.Test.YbulkdecsRound
import Derived.RangeFuncFrom
namespace Go.Proofs.Ybulkdecs
open Go.RowKit Go.Shelf
attribute [local go_sem] Oper.semAt_some

set_option maxHeartbeats 1000000 in
theorem others_in (n : Nat) (p : Option Addr) (w : World) :
    CallsIn Fence.wide n Yba.prog 5 #[.pointer p] w fun e w' => e = .returned (.func (.func 7) #[] #[.pointer (some ⟨w.heap.size, 0, none⟩)]) ∧ w' = w.alloc (.cells #[.pointer p] 43) := by
  refine callsIn_of_wp Yba.func5 rfl trivial ?_ rfl
  simp only [Yba.ntmps5, List.size_toArray, List.length_cons, List.length_nil, Nat.reduceAdd, Nat.reduceSub, Array.replicate_succ, Array.replicate_zero, List.push_toArray, List.append_toArray, List.nil_append, List.cons_append]
  gi_wp2
  go_ret
  exact ⟨rfl, rfl⟩

theorem ret_int {k : IntKind} {a b : Int} (h : a = b) : Ending.returned (.int k a) = .returned (.int k b) := by rw [h]

/-- the window -/
def win (len : Nat) : Int := if 4 * (len : Int) < 64 then 64 else 4 * len
theorem win_bounds (len : Nat) (h : len ≤ 1024) : 0 ≤ win len ∧ win len ≤ 4096 := by unfold win; split <;> omega

set_option maxHeartbeats 1000000 in
theorem window_any (eb pb len : Nat) (w : World) (hlen : len ≤ 1024) (c3 : w.cell? ⟨eb, 3, none⟩ = some (.slice (some ⟨pb, 0, none⟩) len len)) :
    Calls Yba.prog 6 #[.pointer (some ⟨eb, 0, none⟩)] w fun e w' => e = .returned (.int .u64 (win len)) ∧ w' = w := by
  unfold win
  by_cases h : 4 * (len : Int) < 64
  · rw [if_pos h]
    go_enter Yba.func6, Yba.ntmps6
    go_wp2
    all_goals (go_ret; exact ⟨ret_int (by omega), rfl⟩)
  · rw [if_neg h]
    go_enter Yba.func6, Yba.ntmps6
    go_wp2
    all_goals (go_ret; exact ⟨ret_int (by omega), rfl⟩)

theorem EngW.wide {w : World} {n₀ n₁ eb pb n : Nat} {sf members sent : Int} {ak : Nat → Int} (h : EngW w n₀ eb pb n sf members sent ak) (hn : n₀ ≤ n₁) : EngW w n₁ eb pb n sf members sent ak :=
  ⟨h.c0, h.c3, h.c10, h.c21, h.ac, Nat.lt_of_lt_of_le h.le hn, Nat.lt_of_lt_of_le h.lp hn⟩

/-- an index of the peers -/
abbrev Ix (len : Nat) := { x : Nat // x < len }
def valsIx {len : Nat} (l : List (Ix len)) : List Nat := l.map (·.1)

theorem others_stops (n Bs n₀ eb pb len : Nat) (sf members sent : Int) (ak : Nat → Int) (hlen : len ≤ 1024) (hm0 : 0 ≤ members) (hm1 : members < 18446744073709551616) (w : World) (hn₀ : n₀ ≤ w.heap.size) (hBn : Bs < w.heap.size)
    (hc : w.cell? ⟨Bs, 0, none⟩ = some (.pointer (some ⟨eb, 0, none⟩))) (hE : EngW w n₀ eb pb len sf members sent ak) :
    SeqStopsK Fence.wide n Yba.prog 7 #[.pointer (some ⟨Bs, 0, none⟩)] (fun x : Ix len => #[Value.int .i64 (x.1 : Int)]) (Below w.heap.size) (fun ys => valsIx ys = uptoS sf members len) (fun pre => ∃ k, k < len ∧ sel sf members k = true ∧ valsIx pre = uptoS sf members (k + 1)) len w := fun l J Jx W hW hJ _ hY h0 => by
  refine (others1_in n l Bs w.heap.size eb pb len sf members sent ak hlen hm0 hm1 (fun pre W => ∃ p', valsIx p' = pre ∧ J p' W) (fun pre W => ∃ p', valsIx p' = pre ∧ Jx p' W) ?_ ?_ W
    ((hW.cell (p := ⟨Bs, 0, none⟩) hBn).trans hc) hBn (EngW.wide (hE.below (hW.mono hn₀)) hn₀) ⟨[], rfl, h0⟩).mono ?_
  · rintro s W1 q ⟨p', hp, hs⟩
    exact ⟨p', hp, hJ p' W1 (W1.drewN q) none hs ⟨rfl, rfl, rfl, Nat.le_refl _, fun _ _ _ => rfl⟩ (fun r e => by cases e)⟩
  · rintro pre x W1 hx ⟨p', hp, hs⟩ hl
    refine YieldAt.mono (hY p' ⟨x, hx⟩ W1 hs (by rw [← hp] at hl; simpa [valsIx] using hl)) ?_
    rintro e W' (⟨h1, h2, h3⟩ | ⟨h1, h2⟩)
    · exact .inl ⟨h1, ⟨_, by simp [valsIx, ← hp], h2⟩, h3⟩
    · exact .inr ⟨h1, ⟨_, by simp [valsIx, ← hp], h2⟩⟩
  · rintro e W' ⟨he, ⟨ys, rfl, p', hp, hj⟩ | ⟨pre, ⟨k, hk, hs, rfl⟩, p', hp, hj⟩⟩
    · exact ⟨he, .inl ⟨p', hp, hj⟩⟩
    · exact ⟨he, .inr ⟨p', ⟨k, hk, hs, hp⟩, hj⟩⟩

/-- the entry would wait -/
def waits (sent : Int) (ak : Nat → Int) (len k : Nat) : Bool := decide (IntKind.u64.wrap (ak k + win len) ≤ sent)
def backed (sf members sent : Int) (ak : Nat → Int) (len : Nat) : Bool := (uptoS sf members len).any (waits sent ak len)

def NoneWaits (sent : Int) (ak : Nat → Int) (len : Nat) (pre : List (Ix len)) : Prop := ∀ y ∈ pre, waits sent ak len y.1 = false
def SomeWaits (sent : Int) (ak : Nat → Int) (len : Nat) (pre : List (Ix len)) : Prop := ∃ y ∈ pre, waits sent ak len y.1 = true
theorem NoneWaits.snoc {sent : Int} {ak : Nat → Int} {len : Nat} {pre : List (Ix len)} (h : NoneWaits sent ak len pre) {x : Ix len} (hx : waits sent ak len x.1 = false) : NoneWaits sent ak len (pre ++ [x]) := by
  intro y hy
  rcases List.mem_append.1 hy with e | e
  · exact h y e
  · rw [List.mem_singleton.1 e]; exact hx

theorem KeepsOthers.drewN (W : World) (q : Nat) : KeepsOthers W (W.drewN q) := by
  induction q with
  | zero => exact KeepsOthers.refl _
  | succ q ih => exact ih.trans (KeepsOthers.drew _)

theorem cell_new_l (W : World) (v : Value) (t : TypeId) : (W.alloc (.cells #[v] t)).cell? ⟨W.heap.size, 0, none⟩ = some v ∧ (W.alloc (.cells #[v] t)).frozen? ⟨W.heap.size, 0, none⟩ = false :=
  ⟨World.cell?_alloc_at _ _ _ _ rfl, World.frozen?_alloc_at _ _ _ _ rfl⟩
theorem cell_alloc_l {W : World} {a : Addr} {v : Value} (o : Obj) (h : W.cell? a = some v) : (W.alloc o).cell? a = some v := cell_kept h (World.grownBy_alloc W o none) (fun r e => by cases e)
theorem frozen_alloc_l {W : World} {a : Addr} {v : Value} (o : Obj) (h : W.cell? a = some v) (hf : W.frozen? a = false) : (W.alloc o).frozen? a = false := (frozen_kept h (World.grownBy_alloc W o none) (fun r e => by cases e)).trans hf

set_option maxRecDepth 100000 in
set_option maxHeartbeats 2000000 in
theorem backed_in (n : Nat) (hn : 3 ≤ n) (eb pb len : Nat) (sf members sent : Int) (ak : Nat → Int) (hlen : len ≤ 1024) (hm0 : 0 ≤ members) (hm1 : members < 18446744073709551616) (w : World) (hE : EngW w w.heap.size eb pb len sf members sent ak) :
    CallsIn Fence.wide n Yba.prog 4 #[.pointer (some ⟨eb, 0, none⟩)] w fun e W' => e = .returned (.bool (backed sf members sent ak len)) ∧ Below w.heap.size w W' := by
  refine callsIn_of_wp_marks Yba.func4 rfl trivial ?_ rfl
  simp only [Yba.ntmps4, List.size_toArray, List.length_cons, List.length_nil, Nat.reduceAdd, Nat.reduceSub, Array.replicate_succ, Array.replicate_zero, List.push_toArray, List.append_toArray, List.nil_append, List.cons_append]
  gi_wp2_with fail
  refine ⟨trivial, wide_depth, (others_in (n - 1) _ _).mono ?_⟩
  rintro e w' ⟨rfl, rfl⟩
  gi_wp2
  have c0 := cell_new_l w (.pointer (some ⟨eb, 0, none⟩)) 43
  have c1 := cell_new_l (w.alloc (.cells #[.pointer (some ⟨eb, 0, none⟩)] 43)) (.bool false) 4
  have c2 := cell_new_l ((w.alloc (.cells #[.pointer (some ⟨eb, 0, none⟩)] 43)).alloc (.cells #[.bool false] 4)) (.pointer (some ⟨eb, 0, none⟩)) 43
  simp only [World.size_alloc] at c1 c2
  have hB0 : Below w.heap.size w (((w.alloc (.cells #[.pointer (some ⟨eb, 0, none⟩)] 43)).alloc (.cells #[.bool false] 4)).alloc (.cells #[.pointer (some ⟨eb, 0, none⟩)] 43)) := (((Below.refl _ w).alloc (Nat.le_refl _) _).alloc (by simp) _).alloc (by simp; omega) _
  refine wpIn_rangeFunc_ownF rfl (by omega) (gf := 7) (lb := #[.pointer (some ⟨w.heap.size + 1 + 1, 0, none⟩)]) rfl trivial (enters_of Yba.func7 (by kernel_rfl) rfl)
    (others_stops (n - 1) (w.heap.size + 1 + 1) w.heap.size eb pb len sf members sent ak hlen hm0 hm1 _ (by simp; omega) (by simp) c2.1 (hE.below hB0)) belowK_t (belowK_b (Nat.le_refl _)) (Below.refl _ _) (fun _ => rfl)
    (fun pre W => (NoneWaits sent ak len pre ∧ W.cell? ⟨w.heap.size, 0, none⟩ = some (.pointer (some ⟨eb, 0, none⟩)) ∧ W.cell? ⟨w.heap.size + 1, 0, none⟩ = some (.bool false) ∧ W.frozen? ⟨w.heap.size + 1, 0, none⟩ = false) ∧ Below w.heap.size w W)
    (fun c pre W => (c = .ret ∧ SomeWaits sent ak len pre ∧ W.cell? ⟨w.heap.size + 1, 0, none⟩ = some (.bool true)) ∧ Below w.heap.size w W)
    (OwnFrom.and (Own.from (fun s A B row hs hg hr => ⟨hs.1, cell_kept hs.2.1 hg hr, cell_kept hs.2.2.1 hg hr, (frozen_kept hs.2.2.1 hg hr).trans hs.2.2.2⟩) _) (ownFrom_below (Nat.le_refl _) (by simp; omega)))
    (fun c => OwnFrom.and (Own.from (fun s A B row hs hg hr => ⟨hs.1, hs.2.1, cell_kept hs.2.2 hg hr⟩) _) (ownFrom_below (Nat.le_refl _) (by simp; omega)))
    ⟨⟨fun y hy => (by cases hy), cell_alloc_l _ (cell_alloc_l _ c0.1), cell_alloc_l _ c1.1, frozen_alloc_l _ c1.1 c1.2⟩, hB0⟩
    (fun x : Ix len => { tmps := #[.pointer (some ⟨eb, 0, none⟩), .pointer (some ⟨w.heap.size, 0, none⟩), .pointer (some ⟨w.heap.size + 1, 0, none⟩), .int .i64 (x.1 : Int), .pointer (some ⟨eb, 0, none⟩), .func (.func 7) #[] #[.pointer (some ⟨w.heap.size + 1 + 1, 0, none⟩)], .int .i64 (x.1 : Int), undef, undef, undef, undef, undef, undef, undef, undef, undef, undef, undef, undef, undef, undef, undef, undef], defers := [] }) ?assign ?body ?done ?stop
  case assign =>
    intro l x W K hK
    gi_wp2
    exact hK
  case body =>
    rintro l pre ⟨x, hx⟩ W ⟨⟨hp, hcw, hcr, hfr⟩, hB⟩ _
    obtain ⟨d0, d3, d10, d21, dac, _, _⟩ := hE.below hB
    have dx := dac x hx
    have HP : Hid (NoneWaits sent ak len pre) := hp
    have HB : Hid (Below w.heap.size w W) := hB
    clear hp hB dac c0 c1 c2 hB0 hE
    gi_wp2
    refine region_quiet_round (by kernel_rfl) (by kernel_rfl) (by kernel_rfl) ?_
    repeat (gi_big_quiet_step (fail))
    refine BigFrame.wpQuietIn_want (fun _ _ _ _ => trivial) rfl (fun K hK => ?_)
    gi_big_quiet_op
    refine ⟨_, fun a => ⟨wide_depth, CallsIn.quiet_of_same (callsIn_wide.2 (window_any eb pb len (W.drewN a) hlen d3))⟩, ?_⟩
    refine hK _ ?_
    clear hK K
    repeat (gi_big_quiet_step (fail))
    refine wpQuietIn_nil ?_
    intro _ hw'
    obtain ⟨nq, hw''⟩ := hw'
    subst hw''
    by_cases hwt : IntKind.u64.wrap (ak x + win len) ≤ sent
    · have hwd : decide (IntKind.u64.wrap (ak x + win len) ≤ sent) = true := decide_eq_true hwt
      gi_wp2
      exact ⟨(KeepsOthers.drewN _ _).trans (KeepsOthers.setCell _ _ _), ⟨rfl, ⟨⟨x, hx⟩, List.mem_append.2 (.inr (by simp)), hwd⟩, World.cell?_setCell_same' _ _ _ (by rw [show (W.drewN nq).cell? ⟨w.heap.size + 1, 0, none⟩ = W.cell? ⟨w.heap.size + 1, 0, none⟩ from rfl, hcr]; rfl)⟩, (HB.out.drewN _).setCell (p := ⟨w.heap.size + 1, 0, none⟩) (by simp) _⟩
    · have hwd : decide (IntKind.u64.wrap (ak x + win len) ≤ sent) = false := decide_eq_false hwt
      gi_wp2
      exact ⟨KeepsOthers.drewN _ _, (Below.refl _ _).drewN _, ⟨HP.out.snoc hwd, hcw, hcr, hfr⟩, HB.out.drewN _⟩
  case done =>
    rintro D ys W hD hys ⟨⟨hne, _, hcr, hfr⟩, hB⟩ hK
    gi_wp2
    have hK' := (KeepsOthers.setCell W ⟨w.heap.size + 1, 0, none⟩ (.bool false)).same D _ hK rfl
    refine ⟨by simp, .inl ⟨_, _, rfl, run_takeDeferred hK', ?_⟩⟩
    have hc5 := cell_kept (World.cell?_setCell_same' W ⟨w.heap.size + 1, 0, none⟩ (.bool false) (by rw [hcr]; rfl)) (grownBy_putObj' _ D (.deferred none)) (fun r e => by cases e; exact ⟨_, hK', rfl⟩)
    refine ⟨.bool false, ?_, ?_, (hB.setCell (p := ⟨w.heap.size + 1, 0, none⟩) (by simp) _).trans (belowK_b (w := w) (Nat.le_refl _) _ D _ _ (by simp at hD; omega) hK' rfl rfl)⟩
    · simp [results, Yba.f4, go_sem, hc5]
    · have : backed sf members sent ak len = false := by
        unfold backed; rw [← hys, List.any_eq_false]; intro y hy
        simp only [valsIx, List.mem_map] at hy
        obtain ⟨z, hz, rfl⟩ := hy
        simp [hne z hz]
      rw [this]
  case stop =>
    rintro D c pre W hD ⟨k, hk, hsk, hpre⟩ ⟨⟨rfl, ⟨y, hy, hwy⟩, hcr⟩, hB⟩ hK
    gi_wp2
    refine ⟨by simp, .inl ⟨_, _, rfl, run_takeDeferred hK, ?_⟩⟩
    have hc5 := cell_kept hcr (grownBy_putObj' _ D (.deferred none)) (fun r e => by cases e; exact ⟨_, hK, rfl⟩)
    refine ⟨.bool true, ?_, ?_, hB.trans (belowK_b (w := w) (Nat.le_refl _) W D _ _ (by simp at hD; omega) hK rfl rfl)⟩
    · simp [results, Yba.f4, go_sem, hc5]
    · have : backed sf members sent ak len = true := by
        unfold backed; rw [List.any_eq_true]
        refine ⟨y.1, ?_, hwy⟩
        replace hy : y.1 ∈ uptoS sf members (k + 1) := by rw [← hpre]; exact List.mem_map_of_mem hy
        unfold uptoS at hy ⊢
        simp only [List.mem_filter, List.mem_range] at hy ⊢
        exact ⟨by omega, hy.2⟩
      rw [this]
end Go.Proofs.Ybulkdecs

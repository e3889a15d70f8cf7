import Derived.Test.YbulkdecsIter
namespace Go.Proofs.Ybulkdecs
open Go.RowKit Go.Shelf

/-! ### A region that draws its order, IN A ROUND of a range over a function: what holds of it outside the round holds in it, where no operation defers -/
theorem uponIn_inRound (F : Fence) (l n : Nat) (P : Program) (o : Oper) (a : Act) (next : Act → World → Prop) (Q : Exit → Act → World → Prop) (r : Result Next) :
    o.uponIn (F.inRound l) n P a next Q r = o.uponIn F n P a next Q r := by
  cases r with
  | ok v w => cases v <;> rfl
  | _ => rfl

theorem wpIn_inRound (F : Fence) (hro : F.round = none) (l n : Nat) (P : Program) (o : Oper) (hd : ∀ c, o.op ≠ .defer c) (a : Act) (w : World) (K : Act → World → Prop) (Q : Exit → Act → World → Prop) (h : o.wpIn F n P a w K Q) :
    o.wpIn (F.inRound l) n P a w K Q := by
  unfold Oper.wpIn at *
  refine ⟨h.1, ?_⟩
  have h2 := h.2
  rw [hro, Oper.semAt_none] at h2
  rw [Oper.semAt_eq _ _ _ hd, uponIn_inRound]
  exact h2

theorem wpAnyIn_inRound (F : Fence) (hro : F.round = none) (l n : Nat) (P : Program) (md : Region.Mode) (ops : Array Oper) (Q : Exit → Act → World → Prop) (hd : ∀ (i : Nat) (o : Oper), ops[i]? = some o → ∀ c, o.op ≠ .defer c) :
    ∀ (fuel : Nat) (listed : Array Bool) (a : Act) (w : World), wpAnyIn F n P md ops Q fuel listed a w → wpAnyIn (F.inRound l) n P md ops Q fuel listed a w
  | 0, _, _, _, h => h
  | fuel + 1, listed, a, w, h => by
    refine ⟨h.1, fun i hi => ?_⟩
    have h2 := h.2 i hi
    unfold wpOpIn at *
    cases ho : ops[i]? with
    | none => rw [ho] at h2; exact wpAnyIn_inRound F hro l n P md ops Q hd fuel _ a w h2
    | some o =>
      rw [ho] at h2
      dsimp only at h2 ⊢
      by_cases hw : Region.wanted o (yielded ops a.tmps) = true
      · rw [if_pos hw] at h2 ⊢
        exact Oper.wpIn_mono (fun a' w' hk => wpAnyIn_inRound F hro l n P md ops Q hd fuel _ a' w' hk) (wpIn_inRound F hro l n P o (hd i o ho) a w _ Q h2)
      · rw [if_neg hw] at h2 ⊢
        exact ⟨h2.1, wpAnyIn_inRound F hro l n P md ops Q hd fuel _ _ w h2.2⟩

/-- no operation of the list defers -/
def noDefer (l : List Oper) : Bool := l.all fun o => match o.op with | .defer _ => false | _ => true
theorem noDefer_spec {l : List Oper} (h : noDefer l = true) (i : Nat) (o : Oper) (ho : l.toArray[i]? = some o) : ∀ c, o.op ≠ .defer c := by
  intro c hc
  have hm : o ∈ l := by
    have := List.mem_of_getElem? (by simpa using ho : l[i]? = some o)
    exact this
  have := List.all_eq_true.1 h o hm
  rw [hc] at this
  cases this

theorem region_quiet_round {id lr n : Nat} {P : Program} {Q : Exit → Act → World → Prop} {a : Act} {w : World} {l : List Oper} (hm : P.follows .mixedOrders = true) (hB : Region.lexB .any l.toArray = true) (hn : noDefer l = true)
    (h : wpQuietIn Fence.wide n P l.toArray (fun w' => ∃ n, w' = w.drewN n) (fun a' => ∀ w', (∃ n, w' = w.drewN n) → Q .normal a' w') l a) : (Code.region id l.toArray true).wpIn (Fence.wide.inRound lr) n P Q a w := by
  have hB' := hB
  simp only [Region.lexB, Bool.and_eq_true] at hB
  refine wpIn_region_any hm (wpAnyIn_inRound Fence.wide rfl lr n P .any l.toArray Q (fun i o ho => noDefer_spec hn i o ho) _ _ _ _ ?_)
  refine wpAnyIn_of_quiet (Q := fun a' => ∀ w', (∃ n, w' = w.drewN n) → Q .normal a' w') (C := fun w' => ∃ n, w' = w.drewN n) rfl (fun _ w' hw' h => h w' hw') _ _ _ _ ⟨1, rfl⟩ ?_
  have := wpAnyQIn_lex (F := Fence.wide) (n := n) (C := fun w' => ∃ n, w' = w.drewN n) (md := .any) hB.1 l 0 (Array.replicate l.toArray.size false) a (by simp) (by simpa using hB.2) h
  simpa using this
end Go.Proofs.Ybulkdecs

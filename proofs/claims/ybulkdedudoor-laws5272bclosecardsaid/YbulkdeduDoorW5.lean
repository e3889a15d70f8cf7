import Derived.Test.YbulkdeduDoorPre
namespace Go.Proofs.YbulkdeduDoor
open Go.RowKit Go.ChangeMaps Go.MapKept

/-- the envelope in memory, and the kind that the table gives for its kind byte -/
structure Env (W : World) (vb kb k : Nat) (seq : Int) (after : Bool) (t : Nat → Int) : Prop where
  e0 : W.cell? ⟨vb, 0, none⟩ = some (.int .u8 kb)
  e1 : W.cell? ⟨vb, 1, none⟩ = some (.int .i64 0)
  e2 : W.cell? ⟨vb, 2, none⟩ = some (.int .u64 seq)
  e11 : W.cell? ⟨vb, 11, none⟩ = some (.bool after)
  e12 : W.cell? ⟨vb, 12, none⟩ = some (.int .u64 (t 0))
  e13 : W.cell? ⟨vb, 13, none⟩ = some (.int .u64 (t 1))
  e14 : W.cell? ⟨vb, 14, none⟩ = some (.int .u64 (t 2))
  kd : W.cell? ⟨0, kb, none⟩ = some (.int .u8 k)
  kb256 : kb < 256
theorem Env.keep {W V : World} {vb kb k : Nat} {seq : Int} {after : Bool} {t : Nat → Int} (h : Env W vb kb k seq after t) (hs : ∀ b o, (b = vb ∨ b = 0) → V.cell? ⟨b, o, none⟩ = W.cell? ⟨b, o, none⟩) : Env V vb kb k seq after t :=
  ⟨(hs _ _ (.inl rfl)).trans h.e0, (hs _ _ (.inl rfl)).trans h.e1, (hs _ _ (.inl rfl)).trans h.e2, (hs _ _ (.inl rfl)).trans h.e11, (hs _ _ (.inl rfl)).trans h.e12, (hs _ _ (.inl rfl)).trans h.e13, (hs _ _ (.inl rfl)).trans h.e14, (hs _ _ (.inr rfl)).trans h.kd, h.kb256⟩

theorem msgKind_quiet (vb : Nat) (kb k : Nat) (w : World) (h0 : w.cell? ⟨vb, 0, none⟩ = some (.int .u8 kb)) (hk : w.cell? ⟨0, kb, none⟩ = some (.int .u8 k)) (hb : kb < 256) :
    Calls Ybad.prog 8 #[.pointer (some ⟨vb, 0, none⟩)] w fun e w' => e = .returned (.int .u8 k) ∧ ∃ d, w' = w.drewN d :=
  (msgKind_any vb kb k w h0 hk hb).mono fun _ _ ⟨h1, h2⟩ => ⟨h1, 0, h2⟩

@[go_sem] theorem Ybad.mapNilNil (W : World) : (binOp .eql 60 (.map none) (.map none)).run Ybad.prog W = .ok (.bool true) W := by kernel_rfl
@[go_sem] theorem Ybad.mapSomeNil (m : Nat) (W : World) : (binOp .eql 60 (.map (some m)) (.map none)).run Ybad.prog W = .ok (.bool false) W := by kernel_rfl
@[go_sem] theorem Ybad.makeMap60 (W : World) : (Instr.makeMap 60 none).run Ybad.prog W = .ok (.map (some W.heap.size)) (W.alloc (.map #[] 0)) := rfl
@[go_sem] theorem Ybad.build78 (a b : Int) (w : World) : (Instr.build 78 #[(0, .int .u64 a), (1, .int .u64 b)]).run Ybad.prog w = .ok (.agg #[.int .u64 a, .int .u64 b]) w := by kernel_rfl
@[go_sem] theorem Ybad.lookupNil (W : World) : (Instr.lookup 60 (.map none) (.int .i64 0) false).run Ybad.prog W = .ok (.pointer none) W := by kernel_rfl

set_option maxRecDepth 100000 in
set_option maxHeartbeats 1000000 in
/-- a plain copy, no bounds kept: nothing -/
theorem take_plain (n vb kb k : Nat) (seq : Int) (t : Nat → Int) (w : World) (hV : Env w vb kb k seq false t) (hm : w.cell? ⟨n + 7, 63, none⟩ = some (.map none)) :
    Calls Ybad.prog 7 #[.pointer (some ⟨n + 7, 0, none⟩), .pointer (some ⟨vb, 0, none⟩)] w fun e w' => e = .returned (.tuple #[]) ∧ Grew w w' := by
  obtain ⟨e0, e1, e2, e11, e12, e13, e14, kd, h256⟩ := hV
  have HM : Hid (∀ d, Calls Ybad.prog 8 #[.pointer (some ⟨vb, 0, none⟩)] (w.drewN d) fun e w' => e = .returned (.int .u8 k) ∧ ∃ d', w' = (w.drewN d).drewN d') := fun d => msgKind_quiet vb kb k (w.drewN d) e0 kd h256
  clear kd h256
  go_enter Ybad.func7, Ybad.ntmps7
  go_wp2
  go_quiet ((go_at_call 8; exact Calls.quiet_of (HM.out _)))
  go_wp2
  refine bodyPost_ret (results_none rfl _ _ _) rfl ?_
  exact ⟨rfl, Grew.drewN _ _⟩

/-! ### a copy in the form after -/
/-- the highest of the first j -/
def hiOf (l : Nat → Int) : Nat → Int
  | 0 => 0
  | j + 1 => if hiOf l j < l j then l j else hiOf l j
/-- one of the first j lags -/
def lagOf (l t : Nat → Int) : Nat → Bool
  | 0 => false
  | j + 1 => lagOf l t j || decide (l j < t j)

/-- the new bounds' block, at the old heap's end, its first j floors laid -/
structure In2 (Z wr : World) (hi : Int) (j : Nat) : Prop where
  g : Grew Z wr
  floor : Three wr Z.heap.size 0 (fun i => if i < j then hi else 0)
  gaps : ∀ i, i < 3 → wr.cell? ⟨Z.heap.size, 3 + i, none⟩ = some (.slice none 0 0)
  said : ∀ i, i < 9 → wr.cell? ⟨Z.heap.size, 6 + i, none⟩ = some (.int .u64 0)
  fr : ∀ o, wr.frozen? ⟨Z.heap.size, o, none⟩ = false
  lt : Z.heap.size < wr.heap.size
theorem In2.init (Z : World) (hi : Int) (t : TypeId) : In2 Z (Z.alloc (.cells #[.int .u64 0, .int .u64 0, .int .u64 0, .slice none 0 0, .slice none 0 0, .slice none 0 0, .int .u64 0, .int .u64 0, .int .u64 0, .int .u64 0, .int .u64 0, .int .u64 0, .int .u64 0, .int .u64 0, .int .u64 0] t)) hi 0 := by
  refine ⟨Grew.alloc _ _, fun i hi => (World.cell?_alloc_at _ _ _ _ rfl).trans ?_, fun i hi => (World.cell?_alloc_at _ _ _ _ rfl).trans ?_, fun i hi => (World.cell?_alloc_at _ _ _ _ rfl).trans ?_, fun o => World.frozen?_alloc_at _ _ _ _ rfl, by simp⟩
  · obtain rfl | rfl | rfl : i = 0 ∨ i = 1 ∨ i = 2 := by omega
    all_goals rfl
  · obtain rfl | rfl | rfl : i = 0 ∨ i = 1 ∨ i = 2 := by omega
    all_goals rfl
  · obtain rfl | rfl | rfl | rfl | rfl | rfl | rfl | rfl | rfl : i = 0 ∨ i = 1 ∨ i = 2 ∨ i = 3 ∨ i = 4 ∨ i = 5 ∨ i = 6 ∨ i = 7 ∨ i = 8 := by omega
    all_goals rfl
theorem In2.step {Z wr : World} {hi : Int} {j : Nat} (h : In2 Z wr hi j) (hj : j < 3) : In2 Z (wr.setCell ⟨Z.heap.size, j, none⟩ (.int .u64 hi)) hi (j + 1) := by
  refine ⟨h.g.set (Nat.le_refl _) _, fun i hi3 => ?_, fun i hi3 => ?_, fun i hi3 => ?_, fun o => (World.frozen?_setCell _ _ _ _).trans (h.fr o), by rw [World.size_setCell]; exact h.lt⟩
  · by_cases e : i = j
    · subst e
      dsimp only
      rw [Nat.zero_add, if_pos (by omega)]
      have := h.floor i hi3
      rw [Nat.zero_add] at this
      exact World.cell?_setCell_same _ _ _ this
    · rw [other _ (by omega), h.floor i hi3]
      dsimp only
      by_cases e2 : i < j
      · rw [if_pos e2, if_pos (by omega)]
      · rw [if_neg e2, if_neg (by omega)]
  · rw [other _ (by omega)]; exact h.gaps i hi3
  · rw [other _ (by omega)]; exact h.said i hi3

theorem wpList_mapUpd0 {ops : Array Oper} {rest : List Oper} {o : Oper} {a : Act} {w : World} {Q : Exit → Act → World → Prop} (hg : o.guard = none) (m x v : Operand) (hop : o.op = Op.mapUpdate 60 m x v) (mb : Nat) (val : Value)
    (hm : a.eval m = .map (some mb)) (hx : a.eval x = .int .i64 0) (hv : a.eval v = val) (hb : w.heap[mb]? = some (.map #[] 0))
    (hK : wpList Ybad.prog ops Q rest (a.put o.dst undef) (setBlock w mb (.map #[ent val] 1))) : wpList Ybad.prog ops Q (o :: rest) a w := by
  refine wpList_plain hg fun K' hK' => ?_
  have hrun := mapUpd0 w mb val hb
  unfold Oper.wp
  simp [execOp, hop, hm, hx, hv, hrun, Result.andThen]
  exact hK' _ _ hK

theorem In3.init {w Z wr : World} {n sb lb k : Nat} {seq gb hi : Int} {l t : Nat → Int} (hg : Grew w Z) (h : In2 Z wr hi 3) (hs : Three Z sb 0 t) (hl : Three Z lb 0 l) (o1 : n + 7 < w.heap.size) (o2 : w.heap.size ≤ sb) (o3 : sb < lb) (o4 : lb < Z.heap.size)
    (c63 : w.cell? ⟨n + 7, 63, none⟩ = some (.map none)) (c64 : w.cell? ⟨n + 7, 64, none⟩ = some (.int .i64 gb)) (fr : ∀ o, w.frozen? ⟨n + 7, o, none⟩ = false) (frS : ∀ o, Z.frozen? ⟨sb, o, none⟩ = false) :
    In3 w (setBlock ((wr.setCell ⟨n + 7, 63, none⟩ (.map (some wr.heap.size))).alloc (.map #[] 0)) wr.heap.size (.map #[ent (.pointer (some ⟨Z.heap.size, 0, none⟩))] 1)) n sb lb Z.heap.size wr.heap.size k seq gb hi l t 0 := by
  have hsz : w.heap.size ≤ Z.heap.size := hg.bel.size
  have hlt := h.lt
  have gw : Grew w wr := hg.trans h.g
  have hA : ((wr.setCell ⟨n + 7, 63, none⟩ (.map (some wr.heap.size))).alloc (.map #[] 0)).heap[wr.heap.size]? = some (.map #[] 0) := by
    have := heap_alloc_new (wr.setCell ⟨n + 7, 63, none⟩ (.map (some wr.heap.size))) (.map #[] 0)
    rwa [World.size_setCell] at this
  have c : ∀ b o, b < wr.heap.size → ¬ (b = n + 7 ∧ o = 63) → (setBlock ((wr.setCell ⟨n + 7, 63, none⟩ (.map (some wr.heap.size))).alloc (.map #[] 0)) wr.heap.size (.map #[ent (.pointer (some ⟨Z.heap.size, 0, none⟩))] 1)).cell? ⟨b, o, none⟩ = wr.cell? ⟨b, o, none⟩ := fun b o hb hn => by
    rw [setBlock_cell hA, World.cell?_alloc_past _ _ _ (by rw [World.size_setCell]; exact hb), other _ (by omega)]
  have cZ : ∀ b o, b < Z.heap.size → ¬ (b = n + 7 ∧ o = 63) → (setBlock ((wr.setCell ⟨n + 7, 63, none⟩ (.map (some wr.heap.size))).alloc (.map #[] 0)) wr.heap.size (.map #[ent (.pointer (some ⟨Z.heap.size, 0, none⟩))] 1)).cell? ⟨b, o, none⟩ = Z.cell? ⟨b, o, none⟩ := fun b o hb hn => (c b o (by omega) hn).trans (h.g.cell b o hb)
  have f : ∀ b o, b < wr.heap.size → (setBlock ((wr.setCell ⟨n + 7, 63, none⟩ (.map (some wr.heap.size))).alloc (.map #[] 0)) wr.heap.size (.map #[ent (.pointer (some ⟨Z.heap.size, 0, none⟩))] 1)).frozen? ⟨b, o, none⟩ = wr.frozen? ⟨b, o, none⟩ := fun b o hb => by
    rw [setBlock_frozen hA, World.frozen?_alloc_past _ _ _ (by rw [World.size_setCell]; exact hb), World.frozen?_setCell]
  refine ⟨?_, heap_setBlock_same hA _, ?_, fun i hi3 => ?_, hl.keep (fun i _ => cZ _ _ o4 (by omega)), fun i hi3 => ?_, fun i _ hij => by omega, fun i hi3 _ => (c _ _ hlt (by omega)).trans (h.gaps i hi3), fun i hi3 => (c _ _ hlt (by omega)).trans (h.said i hi3), fun b o hb => ?_, fun b o hb hn => (c _ _ (by omega) (by omega)).trans (gw.cell b o hb), ?_, ?_, ⟨o1, o2, o3, o4, hlt⟩⟩
  · rw [setBlock_cell hA, World.cell?_alloc_past _ _ _ (by rw [World.size_setCell]; omega)]; exact World.cell?_setCell_same _ _ _ ((gw.cell _ _ o1).trans c63)
  · exact (c _ _ (by omega) (by omega)).trans ((gw.cell _ _ o1).trans c64)
  · rw [cZ _ _ (by omega) (by omega), hs i hi3]; rfl
  · rw [c _ _ hlt (by omega), h.floor i hi3]
    dsimp only
    rw [if_pos hi3, flAt, if_neg (by omega)]
  · rcases hb with rfl | rfl | rfl
    · exact (f _ _ hlt).trans (h.fr o)
    · exact (f _ _ (by omega)).trans ((h.g.fr _ _ (by omega)).trans (frS o))
    · exact (f _ _ (by omega)).trans ((gw.fr _ _ o1).trans (fr o))
  · exact setBlock_below (B := n + 7) (((gw.bel.mono (B' := n + 7) (by omega)).setCell (p := ⟨n + 7, 63, none⟩) (Nat.le_refl _) _).alloc (by rw [World.size_setCell]; omega) _) hA (by omega) _
  · show wr.heap.size < (Array.setIfInBounds _ _ _).size
    rw [Array.size_setIfInBounds, World.size_alloc, World.size_setCell]; omega

theorem wpList_del1 {ops : Array Oper} {rest : List Oper} {o : Oper} {a : Act} {w : World} {Q : Exit → Act → World → Prop} (hg : o.guard = none) (m x : Operand) (hop : o.op = .call { callee := .builtin .delete, args := #[m, x], argTypes := #[60, 3] }) (mb c : Nat) (v : Value)
    (hm : a.eval m = .map (some mb)) (hx : a.eval x = .int .i64 0) (hb : w.heap[mb]? = some (.map #[ent v] c))
    (hK : wpList Ybad.prog ops Q rest (a.put o.dst (.tuple #[])) (setBlock w mb (.map #[] c))) : wpList Ybad.prog ops Q (o :: rest) a w := by
  refine wpList_plain hg fun K' hK' => ?_
  have hrun := mapDel1 w mb c v o.type hb
  unfold Oper.wp
  simp [execOp, hop, resolve, invoke, builtin, hm, hx, hrun, Result.andThen]
  exact hK' _ _ hK

set_option maxRecDepth 100000 in
set_option maxHeartbeats 8000000 in
theorem take_after (n vb kb k : Nat) (hk : k < 3) (seq gb : Int) (l t : Nat → Int) (w : World) (hV : Env w vb kb k seq true t) (hE : Eng w n (l 0) (l 1) (l 2)) (hn : n + 7 < w.heap.size) (hvb : vb < w.heap.size) (hvn : vb ≠ n + 7) (hm : w.cell? ⟨n + 7, 63, none⟩ = some (.map none))
    (hgap : w.cell? ⟨n + 7, 64, none⟩ = some (.int .i64 gb)) (hfr : ∀ o, w.frozen? ⟨n + 7, o, none⟩ = false) (hb1 : -9223372036854775808 ≤ gb) (hb2 : gb < 9223372036854775808) :
    Calls Ybad.prog 7 #[.pointer (some ⟨n + 7, 0, none⟩), .pointer (some ⟨vb, 0, none⟩)] w fun e w' => e = .returned (.tuple #[]) ∧ (lagOf l t 3 = false → Grew w w') ∧ (lagOf l t 3 = true → ∃ bb mb, Took w w' n bb mb k seq gb (hiOf l 3) l t) := by
  have H63 : Hid (w.cell? ⟨n + 7, 63, none⟩ = some (.map none)) := hm
  have H64 : Hid (w.cell? ⟨n + 7, 64, none⟩ = some (.int .i64 gb)) := hgap
  have HFR : Hid (∀ o, w.frozen? ⟨n + 7, o, none⟩ = false) := hfr
  have HAF : Hid (w.cell? ⟨vb, 11, none⟩ = some (.bool true)) := hV.e11
  clear hgap hfr
  have HV : Hid (Env w vb kb k seq true t) := hV
  have HE : Hid (Eng w n (l 0) (l 1) (l 2)) := hE
  obtain ⟨e0, e1, e2, e11, e12, e13, e14, kd, h256⟩ := hV
  have HM : Hid (∀ d, Calls Ybad.prog 8 #[.pointer (some ⟨vb, 0, none⟩)] (w.drewN d) fun e w' => e = .returned (.int .u8 k) ∧ ∃ d', w' = (w.drewN d).drewN d') := fun d => msgKind_quiet vb kb k (w.drewN d) e0 kd h256
  clear kd h256 hE
  go_enter Ybad.func7, Ybad.ntmps7
  go_wp2
  go_quiet ((go_at_call 8; exact Calls.quiet_of (HM.out _)))
  refine absW (fun X => Grew w X) (Grew.drewN w _) ?_
  intro X hG
  have HX : Hid (Grew w X) := hG
  have hsX : w.heap.size ≤ X.heap.size := hG.bel.size
  have hvX : vb < X.heap.size := by omega
  have hnX : n + 7 < X.heap.size := by omega
  have hmX := (hG.cell (n + 7) 63 hn).trans hm
  have hVX : Env X vb kb k seq true t := HV.out.keep (fun b o hb => hG.cell b o (by rcases hb with h | h <;> omega))
  have HVX : Hid (Env X vb kb k seq true t) := hVX
  have HEX : Hid (Eng X n (l 0) (l 1) (l 2)) := HE.out.grew hn hG
  clear hG HM e0 e1 e2 e11 e12 e13 e14 hm HV HE
  obtain ⟨e0, e1, e2, e11, e12, e13, e14, kd, h256⟩ := hVX
  clear kd h256 e0
  go_wp2_with fail
  have hgS := Grew.alloc X (.cells #[.int .u64 (t 0), .int .u64 (t 1), .int .u64 (t 2)] 23)
  refine (lastTaken_any n (l 0) (l 1) (l 2) _ (HEX.out.grew hnX hgS) (by simp only [World.size_alloc]; omega)).mono ?_
  rintro e w2 ⟨rfl, hg2⟩
  have HS2 : Hid (Three w2 X.heap.size 0 t ∧ (∀ o, w2.frozen? ⟨X.heap.size, o, none⟩ = false) ∧ Grew w w2 ∧ X.heap.size < w2.heap.size) := by
    have hlt : X.heap.size < (X.alloc (.cells #[.int .u64 (t 0), .int .u64 (t 1), .int .u64 (t 2)] 23)).heap.size := by simp
    refine ⟨fun i hi => (hg2.cell _ _ hlt).trans ((World.cell?_alloc_at _ _ _ _ rfl).trans ?_), fun o => (hg2.fr _ _ hlt).trans (World.frozen?_alloc_at _ _ _ _ rfl), HX.out.trans (hgS.trans hg2), Nat.lt_of_lt_of_le hlt hg2.bel.size⟩
    obtain rfl | rfl | rfl : i = 0 ∨ i = 1 ∨ i = 2 := by omega
    all_goals rfl
  clear hgS hg2 e1 e2 e11 e12 e13 e14 HEX
  go_wp2
  refine absW (fun Y => Grew w Y ∧ Three Y X.heap.size 0 t ∧ Three Y w2.heap.size 0 l ∧ w2.heap.size < Y.heap.size ∧ (∀ o, Y.frozen? ⟨X.heap.size, o, none⟩ = false)) ?_ ?_
  · have hh := HS2.out
    have hga := Grew.alloc w2 (.cells #[.int .u64 (l 0), .int .u64 (l 1), .int .u64 (l 2)] 23)
    refine ⟨hh.2.2.1.trans hga, hh.1.keep (fun i hi => hga.cell _ _ hh.2.2.2), fun i hi => (World.cell?_alloc_at _ _ _ _ rfl).trans ?_, by simp, fun o => (hga.fr _ _ hh.2.2.2).trans (hh.2.1 o)⟩
    obtain rfl | rfl | rfl : i = 0 ∨ i = 1 ∨ i = 2 := by omega
    all_goals rfl
  have hs2 := HS2.out.2.2.2
  clear HS2
  rintro Y ⟨hgY, hsaid, hlast, hsY, frS⟩
  have HS : Hid (Three Y X.heap.size 0 t) := hsaid
  have HL : Hid (Three Y w2.heap.size 0 l) := hlast
  have HGY : Hid (Grew w Y) := hgY
  clear hgY hsaid hlast hmX HVX HX
  go_loopw [10, 11, 61] (fun hv lv jv wr => ∃ j : Nat, j ≤ 3 ∧ hv = .int .u64 (hiOf l j) ∧ lv = .bool (lagOf l t j) ∧ jv = .int .u8 j ∧ ∃ d, wr = Y.drewN d) (fun _ _ jv _ => 3 - (intOf jv).toNat)
  case atStart => exact ⟨0, by decide, rfl, rfl, rfl, 0, rfl⟩
  case round =>
    obtain ⟨j, hj, rfl, rfl, rfl, d, hd⟩ := hrel
    have HD : Hid (wr = Y.drewN d) := hd
    by_cases hj3 : j < 3
    · have x1 : wr.cell? ⟨X.heap.size, j, none⟩ = some (.int .u64 (t j)) := by rw [hd]; have := HS.out j hj3; rw [Nat.zero_add] at this; exact this
      have x2 : wr.cell? ⟨w2.heap.size, j, none⟩ = some (.int .u64 (l j)) := by rw [hd]; have := HL.out j hj3; rw [Nat.zero_add] at this; exact this
      have hj1 : (0 : Int) ≤ (j : Int) := by omega
      have hj2 : (j : Int) < 3 := by omega
      clear hd
      obtain ⟨hi, hhi⟩ : ∃ x, x = hiOf l j := ⟨_, rfl⟩
      obtain ⟨lg, hlg⟩ : ∃ x, x = lagOf l t j := ⟨_, rfl⟩
      have HHI : Hid (hi = hiOf l j) := hhi
      have HLG : Hid (lg = lagOf l t j) := hlg
      rw [← hhi, ← hlg]
      clear hhi hlg
      cases lg with
      | true =>
        go_wp2
        go_quiet (fail)
        go_wp2
        go_roundw
        case rel => exact ⟨j + 1, by omega, by rw [hiOf, ← HHI.out], by unfold lagOf; rw [← HLG.out]; rfl, by go_num, d + nq, by rw [HD.out]; simp [World.drewN, Nat.add_assoc]⟩
        case measure => simp [intOf]; omega
      | false =>
        go_wp2
        go_quiet (fail)
        go_wp2
        go_roundw
        case rel => exact ⟨j + 1, by omega, by rw [hiOf, ← HHI.out], by unfold lagOf; rw [← HLG.out]; rfl, by go_num, d + nq, by rw [HD.out]; simp [World.drewN, Nat.add_assoc]⟩
        case measure => simp [intOf]; omega
    · obtain rfl : j = 3 := by omega
      obtain ⟨lg, hlg⟩ : ∃ x, x = lagOf l t 3 := ⟨_, rfl⟩
      have HLG : Hid (lg = lagOf l t 3) := hlg
      rw [← hlg]
      clear hlg
      cases lg with
      | false =>
        have HGW : Hid (Grew w wr) := by rw [hd]; exact HGY.out.trans (Grew.drewN _ _)
        clear hd HD
        go_wp2
        refine bodyPost_ret (results_none rfl _ _ _) rfl ?_
        exact ⟨rfl, fun _ => HGW.out, fun h => by rw [← HLG.out] at h; cases h⟩
      | true =>
        refine absW (fun Z => Grew w Z ∧ Three Z X.heap.size 0 t ∧ Three Z w2.heap.size 0 l ∧ w2.heap.size < Z.heap.size ∧ (∀ o, Z.frozen? ⟨X.heap.size, o, none⟩ = false)) (by rw [hd]; exact ⟨HGY.out.trans (Grew.drewN _ _), HS.out, HL.out, hsY, frS⟩) ?_
        clear hd HD HGY HS HL frS
        rintro Z ⟨hgZ, hsaid, hlast, hsZ, frS⟩
        have HS : Hid (Three Z X.heap.size 0 t) := hsaid
        have HL : Hid (Three Z w2.heap.size 0 l) := hlast
        have HGZ : Hid (Grew w Z) := hgZ
        have HFS : Hid (∀ o, Z.frozen? ⟨X.heap.size, o, none⟩ = false) := frS
        clear hgZ hsaid hlast frS
        obtain ⟨hi, hhi⟩ : ∃ x, x = hiOf l 3 := ⟨_, rfl⟩
        have HHI : Hid (hi = hiOf l 3) := hhi
        rw [← hhi]
        clear hhi
        go_wp2
        go_loopw [90] (fun jv wr => ∃ j : Nat, j ≤ 3 ∧ jv = .int .u8 j ∧ In2 Z wr hi j) (fun jv _ => 3 - (intOf jv).toNat)
        case atStart => exact ⟨0, by decide, rfl, In2.init Z hi 76⟩
        case round =>
          obtain ⟨j, hj, rfl, hin⟩ := hrel
          have HIN : Hid (In2 Z wr hi j) := hin
          by_cases hj3 : j < 3
          · have x1 := hin.floor j hj3
            rw [Nat.zero_add] at x1
            have x2 := hin.fr j
            have HNX : Hid (In2 Z (wr.setCell ⟨Z.heap.size, j, none⟩ (.int .u64 hi)) hi (j + 1)) := hin.step hj3
            clear hin
            go_wp2
            go_roundw
            case rel => exact ⟨j + 1, by omega, by go_num, HNX.out⟩
            case measure => simp [intOf]; omega
          · obtain rfl : j = 3 := by omega
            have gw : Grew w wr := HGZ.out.trans hin.g
            have HI : Hid (In3 w (setBlock ((wr.setCell ⟨n + 7, 63, none⟩ (.map (some wr.heap.size))).alloc (.map #[] 0)) wr.heap.size (.map #[ent (.pointer (some ⟨Z.heap.size, 0, none⟩))] 1)) n X.heap.size w2.heap.size Z.heap.size wr.heap.size k seq gb hi l t 0) :=
              In3.init HGZ.out hin HS.out HL.out hn hsX hs2 hsZ H63.out H64.out HFR.out HFS.out
            have c63 := (gw.cell (n + 7) 63 hn).trans H63.out
            have f63 := (gw.fr (n + 7) 63 hn).trans (HFR.out 63)
            have hnw : n + 7 < wr.heap.size := by have := gw.bel.size; omega
            have hHP : Hid (((wr.setCell ⟨n + 7, 63, none⟩ (.map (some wr.heap.size))).alloc (.map #[] 0)).heap[wr.heap.size]? = some (.map #[] 0)) := by
              show _ = _
              have := heap_alloc_new (wr.setCell ⟨n + 7, 63, none⟩ (.map (some wr.heap.size))) (.map #[] 0)
              rwa [World.size_setCell] at this
            clear hin gw HIN HS HL HGZ HFS
            go_wp2_with (at_mapUpdate; go_must (refine wpList_mapUpd0 rfl _ _ _ rfl wr.heap.size (.pointer (some ⟨Z.heap.size, 0, none⟩)) rfl rfl rfl hHP.out ?_))
            refine absW (fun V => In3 w V n X.heap.size w2.heap.size Z.heap.size wr.heap.size k seq gb hi l t 0) HI.out ?_
            obtain ⟨mb, hmb⟩ : ∃ x, x = wr.heap.size := ⟨_, rfl⟩
            obtain ⟨bb, hbb⟩ : ∃ x, x = Z.heap.size := ⟨_, rfl⟩
            obtain ⟨lb, hlb⟩ : ∃ x, x = w2.heap.size := ⟨_, rfl⟩
            obtain ⟨sb, hsb⟩ : ∃ x, x = X.heap.size := ⟨_, rfl⟩
            rw [← hmb, ← hbb, ← hlb, ← hsb]
            clear HI hHP c63 f63 hmb hbb hlb hsb hnw hsX hvX hnX hs2 hsZ hj hj3
            intro V hI
            have HI : Hid (In3 w V n sb lb bb mb k seq gb hi l t 0) := hI
            clear hI
            go_loopw [115] (fun jv wr => ∃ j : Nat, j ≤ 3 ∧ jv = .int .u8 j ∧ In3 w wr n sb lb bb mb k seq gb hi l t j) (fun jv _ => 3 - (intOf jv).toNat)
            case atStart => exact ⟨0, by decide, rfl, HI.out⟩
            case round =>
              clear HI
              obtain ⟨j, hj, rfl, hin⟩ := hrel
              have HIN : Hid (In3 w wr n sb lb bb mb k seq gb hi l t j) := hin
              by_cases hj3 : j < 3
              · by_cases hjk : j = k
                · have HNX : Hid (In3 w wr n sb lb bb mb k seq gb hi l t (j + 1)) := hin.skip hjk
                  clear hin
                  subst hjk
                  go_wp2
                  go_roundw
                  case rel => exact ⟨j + 1, by omega, by go_num, HNX.out⟩
                  case measure => simp [intOf]; omega
                · have x1 := hin.saidv j hj3
                  have x2 := hin.last j hj3
                  rw [Nat.zero_add] at x1 x2
                  rw [show sdAt l t k j j = t j from if_neg (by omega)] at x1
                  have hj1 : (0 : Int) ≤ (j : Int) := by omega
                  have hj2 : (j : Int) < 3 := by omega
                  have hjk1 : ((j : Int) == (k : Int)) = false := by simp; omega
                  have hsz : w.heap.size ≤ wr.heap.size := hin.bel.size
                  obtain ⟨o1, o2, o3, o4, o5⟩ := hin.ord
                  have o6 := hin.lt
                  clear hin
                  have q1 : sb < wr.heap.size := by omega
                  have q2 : lb < wr.heap.size := by omega
                  by_cases hl : l j < t j
                  · have hl' : decide (l j < t j) = true := decide_eq_true hl
                    go_wp2
                    go_region_held3 (fun x => x.cell? ⟨sb, j, none⟩ = some (.int .u64 (t j)) ∧ x.cell? ⟨lb, j, none⟩ = some (.int .u64 (l j))) (go_keep) (fail)
                    refine absW (fun V => In3 w V n sb lb bb mb k seq gb hi l t j ∧ V.cell? ⟨wr.heap.size, 0, none⟩ = some (.int .u64 (t j)) ∧ V.cell? ⟨wr.heap.size, 1, none⟩ = some (.int .u64 seq) ∧ wr.heap.size < V.heap.size) ⟨HIN.out.grew ((Grew.alloc wr _).trans (Grew.drewN _ 1)), World.cell?_alloc_at _ _ _ _ rfl, World.cell?_alloc_at _ _ _ _ rfl, by simp⟩ ?_
                    obtain ⟨gk, hgk⟩ : ∃ x, x = wr.heap.size := ⟨_, rfl⟩
                    have o7 : mb < gk := by rw [hgk]; exact o6
                    rw [← hgk]
                    clear hgk HIN x1 x2
                    rintro V ⟨hin, y0, y1, y2⟩
                    have HIN : Hid (In3 w V n sb lb bb mb k seq gb hi l t j) := hin
                    have e11 := (hin.same vb 11 hvb (.inl hvn)).trans HAF.out
                    have h64 := hin.gap
                    have f64 := hin.fr (n + 7) 64 (.inr (.inr rfl))
                    have gN := hin.gapsN j hj3 (fun hc => by omega)
                    have fN := hin.fr bb (3 + j) (.inl rfl)
                    obtain ⟨g0, hg0⟩ : ∃ x, x = gapB l t k gb j := ⟨_, rfl⟩
                    have HG0 : Hid (g0 = gapB l t k gb j) := hg0
                    rw [← hg0] at h64
                    have hnV : n + 7 < V.heap.size := by omega
                    have hnb : ¬ (n + 7 = bb ∧ 64 = 3 + j) := by omega
                    clear hin hg0
                    go_wp2
                    go_region_with (go_at_call 11; refine (addGap_nil bb j hj3 (t j) seq V.drew gN fN).mono ?_; rintro e w3 ⟨rfl, v, hv, hg, hc⟩; have d64 := (hc.same (n + 7) 64 hnV hnb).trans h64; have e64 := (hc.fr (n + 7) 64 hnV).trans f64)
                    all_goals
                      have HNX : Hid (In3 w (w3.setCell ⟨n + 7, 64, none⟩ (.int .i64 (IntKind.i64.wrap (g0 + IntKind.i64.wrap 16)))) n sb lb bb mb k seq gb hi l t (j + 1)) := by
                        have := (HIN.out.grew (Grew.drewN V 1)).open hjk hj3 hl hv hg hc
                        rw [← HG0.out] at this
                        exact this
                      refine absW (fun V => In3 w V n sb lb bb mb k seq gb hi l t (j + 1)) HNX.out ?_
                      clear HNX HIN hv hg hc d64 e64 h64 f64 gN fN e11 y0 y1
                      intro V' hN
                      have HNX : Hid (In3 w V' n sb lb bb mb k seq gb hi l t (j + 1)) := hN
                      clear hN
                      go_wp2
                      go_roundw
                      case rel => exact ⟨j + 1, by omega, by go_num, HNX.out⟩
                      case measure => simp [intOf]; omega
                  · have hl' : decide (l j < t j) = false := decide_eq_false hl
                    go_wp2
                    go_region_held3 (fun x => x.cell? ⟨sb, j, none⟩ = some (.int .u64 (t j)) ∧ x.cell? ⟨lb, j, none⟩ = some (.int .u64 (l j))) (go_keep) (fail)
                    refine absW (fun V => In3 w V n sb lb bb mb k seq gb hi l t j) (HIN.out.grew ((Grew.alloc wr _).trans (Grew.drewN _ 1))) ?_
                    clear HIN x1 x2
                    intro V hin
                    have HIN : Hid (In3 w V n sb lb bb mb k seq gb hi l t j) := hin
                    have x3 := hin.floor j hj3
                    have x4 := hin.saidv j hj3
                    rw [Nat.zero_add] at x3 x4
                    rw [show flAt l t k seq hi j j = hi from if_neg (by omega)] at x3
                    have f3 := hin.fr bb j (.inl rfl)
                    have f4 := hin.fr sb j (.inr (.inl rfl))
                    have nbs : ¬ bb = sb := by omega
                    have nsb : ¬ sb = bb := by omega
                    clear hin
                    go_wp2
                    go_region
                    refine absW (fun V => In3 w V n sb lb bb mb k seq gb hi l t (j + 1)) ((HIN.out.shut hjk hj3 (by omega)).grew (Grew.drewN _ 1)) ?_
                    clear HIN x3 x4 f3 f4
                    intro V' hN
                    have HNX : Hid (In3 w V' n sb lb bb mb k seq gb hi l t (j + 1)) := hN
                    clear hN
                    go_wp2
                    go_roundw
                    case rel => exact ⟨j + 1, by omega, by go_num, HNX.out⟩
                    case measure => simp [intOf]; omega
              · obtain rfl : j = 3 := by omega
                have s0 := hin.saidv 0 (by decide)
                have s1 := hin.saidv 1 (by decide)
                have s2 := hin.saidv 2 (by decide)
                simp only [Nat.zero_add] at s0 s1 s2
                have z0 := hin.said (k * 3) (by omega)
                have z1 := hin.said (k * 3 + 1) (by omega)
                have z2 := hin.said (k * 3 + 2) (by omega)
                simp only [← Nat.add_assoc] at z1 z2
                have fb := fun o => hin.fr bb o (.inl rfl)
                have hj1 : (0 : Int) ≤ (k : Int) := by omega
                have hj2 : (k : Int) < 3 := by omega
                obtain ⟨o1, o2, o3, o4, o5⟩ := hin.ord
                have nbs : ¬ bb = sb := by omega
                have nsb : ¬ sb = bb := by omega
                clear hin
                go_wp2
                go_region_held3 (fun x => x.cell? ⟨sb, 0, none⟩ = some (.int .u64 (sdAt l t k 3 0)) ∧ x.cell? ⟨sb, 1, none⟩ = some (.int .u64 (sdAt l t k 3 1)) ∧ x.cell? ⟨sb, 2, none⟩ = some (.int .u64 (sdAt l t k 3 2))) (go_keep) (fail)
                refine absW (fun V => Pre w V n lb bb mb k seq gb hi l t) (HIN.out.pre hk) ?_
                clear HIN s0 s1 s2 z0 z1 z2 fb
                intro V hP
                have HP : Hid (Pre w V n lb bb mb k seq gb hi l t) := hP
                have h64 := hP.gap
                have f64 := hP.fr (n + 7) 64 (.inr rfl)
                have hLk := hP.last k hk
                rw [Nat.zero_add] at hLk
                have gN := hP.gapsN k hk opn_self
                have fN := hP.fr bb (3 + k) (.inl rfl)
                have hnV : n + 7 < V.heap.size := by have := hP.bel.size; omega
                have hnb : ¬ (n + 7 = bb ∧ 64 = 3 + k) := by omega
                obtain ⟨g0, hg0⟩ : ∃ x, x = gapB l t k gb 3 := ⟨_, rfl⟩
                have HG0 : Hid (g0 = gapB l t k gb 3) := hg0
                have HGR : Hid (IntKind.i64.wrap g0 = g0) := by show _ = _; rw [hg0]; exact gapB_range hb1 hb2 3
                rw [← hg0] at h64
                have hlV : lb < V.heap.size := by have := hP.lt; omega
                have nl1 : ¬ lb = n + 7 := by omega
                have nl2 : ¬ n + 7 = lb := by omega
                have hlb : ¬ (lb = bb ∧ k = 3 + k) := by omega
                clear hP hg0
                have hgr : IntKind.i64.wrap (g0 - IntKind.i64.wrap 0) = g0 := by have := HGR.out; rw [show IntKind.i64.wrap 0 = 0 from rfl, Int.sub_zero]; exact this
                by_cases hmx : l k < seq
                all_goals
                  go_wp2
                  go_region_held3 (fun x => x.cell? ⟨lb, k, none⟩ = some (.int .u64 (l k)) ∧ x.cell? ⟨n + 7, 64, none⟩ = some (.int .i64 g0)) (go_keep) ((go_at_call 12; refine (closeGaps_nil bb k hk _ V.drew gN fN).mono ?_; rintro e w3 ⟨rfl, hc, hv⟩; have dL := (hc.same lb k hlV hlb).trans hLk; have d64 := (hc.same (n + 7) 64 hnV hnb).trans h64; have e64 := (hc.fr (n + 7) 64 hnV).trans f64; have dS := World.cell?_setCell_same w3 ⟨n + 7, 64, none⟩ (.int .i64 g0) d64))
                  refine absW (fun V => Pre w V n lb bb mb k seq gb hi l t) (by have := HP.out.drew.close hk hc hv; rw [← HG0.out] at this; exact this) ?_
                  clear HP hc hv dL d64 e64 dS h64 f64 gN fN hLk hgr HGR HG0
                  intro V2 hP2
                  have HP : Hid (Pre w V2 n lb bb mb k seq gb hi l t) := hP2
                  have hobj := hP2.obj
                  have h63 := hP2.map
                  have HQ := hP2.quiet
                  clear hP2
                  obtain ⟨q, hq⟩ : ∃ x, x = (opn l t k 0 || opn l t k 1 || opn l t k 2) := ⟨_, rfl⟩
                  have HQQ : Hid ((opn l t k 0 || opn l t k 1 || opn l t k 2) = q) := hq.symm
                  rw [← hq] at HQ
                  clear hq
                  cases q with
                  | true =>
                    go_wp2_with fail
                    refine HQ.mono ?_
                    rintro e w4 ⟨rfl, rfl⟩
                    clear HQ
                    go_wp2
                    go_end0
                    exact ⟨rfl, fun h => (by rw [← HLG.out] at h; cases h), fun _ => ⟨bb, mb, by rw [← HHI.out]; exact HP.out.took HQQ.out⟩⟩
                  | false =>
                    go_wp2_with fail
                    refine HQ.mono ?_
                    rintro e w4 ⟨rfl, rfl⟩
                    clear HQ
                    go_wp2_with (refine wpList_del1 rfl (.tmp 210) (.tmp 211) rfl mb 1 (.pointer (some ⟨bb, 0, none⟩)) rfl rfl hobj ?_)
                    go_end0
                    exact ⟨rfl, fun h => (by rw [← HLG.out] at h; cases h), fun _ => ⟨bb, mb, by rw [← HHI.out]; exact HP.out.del HQQ.out⟩⟩
end Go.Proofs.YbulkdeduDoor

import Derived.Test.YbulkdeduDoorFin
namespace Go.Proofs.YbulkdeduDoor
open Go.RowKit Go.ChangeMaps Go.MapKept

theorem kindbyte_kb (k kb : Nat) (hk : k < 3) (h : kb = (if k = 0 then 1 else if k = 1 then 2 else 10)) (w : World) : Calls Ybad.prog 6 #[.int .i64 k] w fun e w' => e = .returned (.int .u8 (kb : Int)) ∧ w' = w := by
  refine (kindbyte_any k hk w).mono ?_
  rintro e w' ⟨rfl, rfl⟩
  refine ⟨?_, rfl⟩
  subst h
  obtain rfl | rfl | rfl : k = 0 ∨ k = 1 ∨ k = 2 := by omega
  all_goals rfl

/-- all that stands in memory before takeLatest is called: h the old heap's end; last in block h, latest in h + 1, the engine at h + 9, the envelope at h + 10 -/
structure Ready (w W : World) (n kb k : Nat) (seq gb : Int) (after : Bool) (l t : Nat → Int) : Prop where
  eng : Eng W n (l 0) (l 1) (l 2)
  env : Env W (n + 8) kb k seq after t
  b63 : W.cell? ⟨n + 7, 63, none⟩ = some (.map none)
  b64 : W.cell? ⟨n + 7, 64, none⟩ = some (.int .i64 gb)
  fr : ∀ o, W.frozen? ⟨n + 7, o, none⟩ = false
  last : Three W w.heap.size 0 l
  late : Three W (w.heap.size + 1) 0 t
  bel : Below w.heap.size w W
  sz : W.heap.size = n + 9
  hn : n = w.heap.size + 2

theorem ready_of {w W : World} {n kb k : Nat} {seq gb g : Int} {after : Bool} {l t : Nat → Int} (A : Array Value) (a0 : A[0]? = some (.int .u8 kb)) (a1 : A[1]? = some (.int .i64 0)) (a2 : A[2]? = some (.int .u64 seq)) (a11 : A[11]? = some (.bool after)) (a12 : A[12]? = some (.int .u64 (t 0))) (a13 : A[13]? = some (.int .u64 (t 1))) (a14 : A[14]? = some (.int .u64 (t 2)))
    (h256 : kb < 256) (hc : w.cell? ⟨0, kb, none⟩ = some (.int .u8 k)) (h0 : 0 < w.heap.size) (hn : n = w.heap.size + 2) (hE : Eng W n (l 0) (l 1) (l 2)) (h63 : W.cell? ⟨n + 7, 63, none⟩ = some (.map none)) (h64 : W.cell? ⟨n + 7, 64, none⟩ = some (.int .i64 g)) (hf : ∀ o, W.frozen? ⟨n + 7, o, none⟩ = false)
    (hsz : W.heap.size = n + 8) (hB : Below w.heap.size w W) (hl : Three W w.heap.size 0 l) (ht : Three W (w.heap.size + 1) 0 t) :
    Ready w ((W.setCell ⟨n + 7, 64, none⟩ (.int .i64 gb)).alloc (.cells A 42)).drew n kb k seq gb after l t := by
  have hs : (W.setCell ⟨n + 7, 64, none⟩ (.int .i64 gb)).heap.size = n + 8 := by rw [World.size_setCell, hsz]
  have c : ∀ b o, b < n + 8 → (b ≠ n + 7 ∨ o ≠ 64) → ((W.setCell ⟨n + 7, 64, none⟩ (.int .i64 gb)).alloc (.cells A 42)).drew.cell? ⟨b, o, none⟩ = W.cell? ⟨b, o, none⟩ := fun b o hb hn => by
    rw [World.cell?_drew, World.cell?_alloc_past _ _ _ (by rw [hs]; exact hb), other _ (by omega)]
  have at' : ∀ (i : Nat) (v : Value), A[i]? = some v → ((W.setCell ⟨n + 7, 64, none⟩ (.int .i64 gb)).alloc (.cells A 42)).drew.cell? ⟨n + 8, i, none⟩ = some v := fun i v hv => (World.cell?_alloc_at _ _ _ _ hs.symm).trans hv
  refine ⟨hE.keep (fun b o hb hn => c b o hb (by omega)), ⟨at' _ _ a0, at' _ _ a1, at' _ _ a2, at' _ _ a11, at' _ _ a12, at' _ _ a13, at' _ _ a14, ?_, h256⟩, (c _ _ (by omega) (by omega)).trans h63, ?_, fun o => ?_, hl.keep (fun i _ => c _ _ (by omega) (by omega)), ht.keep (fun i _ => c _ _ (by omega) (by omega)), ?_, ?_, hn⟩
  · exact (c _ _ (by omega) (by omega)).trans ((hB.cell (p := ⟨0, kb, none⟩) h0).trans hc)
  · rw [World.cell?_drew, World.cell?_alloc_past _ _ _ (by rw [hs]; omega)]; exact World.cell?_setCell_same _ _ _ h64
  · rw [World.frozen?_drew, World.frozen?_alloc_past _ _ _ (by rw [hs]; omega), World.frozen?_setCell]; exact hf o
  · exact ((hB.setCell (p := ⟨n + 7, 64, none⟩) (by show w.heap.size ≤ n + 7; omega) _).alloc (by rw [hs]; omega) _).drew
  · show (World.alloc _ _).heap.size = _
    rw [World.size_alloc, hs]

/-- what the law reads behind takeLatest -/
structure Aft (w R : World) (n : Nat) (seq : Int) (l t : Nat → Int) : Prop where
  e2 : R.cell? ⟨n + 8, 2, none⟩ = some (.int .u64 seq)
  e12 : Three R (n + 8) 12 t
  last : Three R w.heap.size 0 l
  late : Three R (w.heap.size + 1) 0 t
  bel : Below w.heap.size w R
theorem Ready.aft {w R R2 : World} {n kb k : Nat} {seq gb : Int} {after : Bool} {l t : Nat → Int} (h : Ready w R n kb k seq gb after l t) (hs : ∀ b o, b < R.heap.size → (b ≠ n + 7 ∨ (o ≠ 63 ∧ o ≠ 64)) → R2.cell? ⟨b, o, none⟩ = R.cell? ⟨b, o, none⟩) (hb : Below (n + 7) R R2) : Aft w R2 n seq l t := by
  have hz := h.sz
  have hn := h.hn
  refine ⟨(hs _ _ (by omega) (by omega)).trans h.env.e2, fun i hi => ?_, h.last.keep (fun i _ => hs _ _ (by omega) (by omega)), h.late.keep (fun i _ => hs _ _ (by omega) (by omega)), h.bel.trans (hb.mono (by omega))⟩
  rw [hs _ _ (by omega) (by omega)]
  obtain rfl | rfl | rfl : i = 0 ∨ i = 1 ∨ i = 2 := by omega
  · exact h.env.e12
  · exact h.env.e13
  · exact h.env.e14

theorem Took.drewN {w w' : World} {n bb mb k : Nat} {seq gb hi : Int} {l t : Nat → Int} (h : Took w w' n bb mb k seq gb hi l t) (d : Nat) : Took w (w'.drewN d) n bb mb k seq gb hi l t :=
  ⟨h.map, h.obj, h.gap, h.floor, fun i hi3 ho => by
    obtain ⟨v, hv, hg⟩ := h.gapsO i hi3 ho
    exact ⟨v, hv, hg.keep (Nat.le_refl _) (fun _ _ _ _ => rfl) (Nat.le_refl _)⟩, h.gapsN, h.saidk, h.saido, h.same, below_drewN' h.bel d, h.ord⟩
theorem Aft.drewN {w R : World} {n : Nat} {seq : Int} {l t : Nat → Int} (h : Aft w R n seq l t) (d : Nat) : Aft w (R.drewN d) n seq l t := ⟨h.e2, h.e12, h.last, h.late, below_drewN' h.bel d⟩

theorem Took.grew {w V X : World} {n bb mb k : Nat} {seq gb hi : Int} {l t : Nat → Int} (h : Took w V n bb mb k seq gb hi l t) (g : Grew V X) : Took w X n bb mb k seq gb hi l t := by
  have hb := h.ord.2
  have hn : n + 7 < V.heap.size := World.block_lt_of_cell? (a := ⟨n + 7, 63, none⟩) _ h.map
  have hm : mb < V.heap.size := by
    have := h.obj
    rcases Nat.lt_or_ge mb V.heap.size with h1 | h1
    · exact h1
    · rw [Array.getElem?_eq_none h1] at this; cases this
  have hsz : w.heap.size ≤ V.heap.size := h.bel.size
  refine ⟨(g.cell _ _ hn).trans h.map, (g.bel.block mb hm).trans h.obj, (g.cell _ _ hn).trans h.gap, h.floor.keep (fun i _ => g.cell _ _ hb), fun i hi3 ho => ?_, fun i hi3 ho => (g.cell _ _ hb).trans (h.gapsN i hi3 ho), h.saidk.keep (fun i _ => g.cell _ _ hb), fun m hm hmk => (h.saido m hm hmk).keep (fun i _ => g.cell _ _ hb), fun b o hb hn => (g.cell b o (by omega)).trans (h.same b o hb hn), h.bel.trans (g.bel.mono (by omega)), h.ord.1, Nat.lt_of_lt_of_le hb g.bel.size⟩
  obtain ⟨v, hv, hg⟩ := h.gapsO i hi3 ho
  exact ⟨v, (g.cell _ _ hb).trans hv, hg.keep (Nat.le_refl _) (fun b o _ hb => g.cell b o hb) g.bel.size⟩

theorem In5.init (V : World) (k : Nat) (seq hi : Int) (l t : Nat → Int) (a b : TypeId) : In5 V ((V.alloc (.cells #[.int .u64 0, .int .u64 0, .int .u64 0] a)).alloc (.cells #[.int .u64 (t 0), .int .u64 (t 1), .int .u64 (t 2)] b)) k seq hi l t 0 := by
  refine ⟨(Grew.alloc _ _).trans (Grew.alloc _ _), fun i hi3 => ?_, fun i hi3 => ?_, fun b o hb => ?_, by simp⟩
  · rw [World.cell?_alloc_past _ _ _ (by simp), World.cell?_alloc_at _ _ _ _ rfl, wfl, if_neg (by omega)]
    obtain rfl | rfl | rfl : i = 0 ∨ i = 1 ∨ i = 2 := by omega
    all_goals rfl
  · rw [World.cell?_alloc_at _ _ _ _ (by simp), sdAt, if_neg (by omega)]
    obtain rfl | rfl | rfl : i = 0 ∨ i = 1 ∨ i = 2 := by omega
    all_goals rfl
  · rcases hb with rfl | rfl
    · rw [World.frozen?_alloc_past _ _ _ (by simp)]; exact World.frozen?_alloc_at _ _ _ _ rfl
    · exact World.frozen?_alloc_at _ _ _ _ (by simp)

theorem zero3 (Y : World) {zb : Nat} (h : zb = Y.heap.size) (a : TypeId) : Three (Y.alloc (.cells #[.int .u64 0, .int .u64 0, .int .u64 0] a)) zb 0 (fun _ => 0) := fun i hi3 => by
  rw [World.cell?_alloc_at _ _ _ _ h]
  obtain rfl | rfl | rfl : i = 0 ∨ i = 1 ∨ i = 2 := by omega
  all_goals rfl

/-- what takeLatest has left, a copy in the form after -/
def Left (w R V : World) (n k : Nat) (seq gb : Int) (l t : Nat → Int) : Prop :=
  Aft w V n seq l t ∧ (lagOf l t 3 = false → V.cell? ⟨n + 7, 63, none⟩ = some (.map none) ∧ V.cell? ⟨n + 7, 64, none⟩ = some (.int .i64 gb)) ∧ (lagOf l t 3 = true → ∃ bb mb, Took R V n bb mb k seq gb (hiOf l 3) l t)
theorem Left.drewN {w R V : World} {n k : Nat} {seq gb : Int} {l t : Nat → Int} (h : Left w R V n k seq gb l t) (d : Nat) : Left w R (V.drewN d) n k seq gb l t :=
  ⟨h.1.drewN d, h.2.1, fun e => by obtain ⟨bb, mb, hT⟩ := h.2.2 e; exact ⟨bb, mb, hT.drewN d⟩⟩

set_option maxRecDepth 100000 in
set_option maxHeartbeats 4000000 in
theorem fresh_any (sel : Nat) (hsel : sel < 256) (after : Bool) (seq gb : Int) (l t : Nat → Int) (w : World) (hb1 : -9223372036854775808 ≤ gb) (hb2 : gb < 9223372036854775808)
    (hk1 : w.cell? ⟨0, 1, none⟩ = some (.int .u8 0)) (hk2 : w.cell? ⟨0, 2, none⟩ = some (.int .u8 1)) (hk10 : w.cell? ⟨0, 10, none⟩ = some (.int .u8 2)) :
    Calls Ybad.prog 3 #[.int .u8 sel, .bool after, .int .u64 seq, .agg #[.int .u64 (l 0), .int .u64 (l 1), .int .u64 (l 2)], .agg #[.int .u64 (t 0), .int .u64 (t 1), .int .u64 (t 2)], .int .i64 gb] w fun e w' => e = .returned (.bool true) ∧ Below w.heap.size w w' := by
  obtain ⟨k, hk, hkk⟩ : ∃ k : Nat, k < 3 ∧ (sel : Int) % 3 = k := ⟨sel % 3, by omega, by omega⟩
  have hkb : ∃ kb : Nat, kb = (if k = 0 then 1 else if k = 1 then 2 else 10) ∧ kb < 256 ∧ w.cell? ⟨0, kb, none⟩ = some (.int .u8 k) := by
    obtain rfl | rfl | rfl : k = 0 ∨ k = 1 ∨ k = 2 := by omega
    · exact ⟨1, rfl, by decide, hk1⟩
    · exact ⟨2, rfl, by decide, hk2⟩
    · exact ⟨10, rfl, by decide, hk10⟩
  have HKB : Hid (∃ kb : Nat, kb = (if k = 0 then 1 else if k = 1 then 2 else 10) ∧ kb < 256 ∧ w.cell? ⟨0, kb, none⟩ = some (.int .u8 k)) := hkb
  clear hk1 hk2 hk10 hkb
  have h0 : 0 < w.heap.size := by obtain ⟨kb, _, _, h⟩ := HKB.out; exact World.block_lt_of_cell? (a := ⟨0, kb, none⟩) _ h
  have hb42 := Ybad.build42
  obtain ⟨kb, hkb, h256, hcell⟩ := HKB.out
  have HK1 : Hid (kb = (if k = 0 then 1 else if k = 1 then 2 else 10)) := hkb
  have HK2 : Hid (kb < 256) := h256
  have HK3 : Hid (w.cell? ⟨0, kb, none⟩ = some (.int .u8 k)) := hcell
  clear hkb h256 hcell HKB
  go_enter Ybad.func3, Ybad.ntmps3
  go_wp2_with fail
  refine (engine_any (l 0) (l 1) (l 2) _).mono ?_
  have hs : ((w.alloc (.cells #[.int .u64 (l 0), .int .u64 (l 1), .int .u64 (l 2)] 23)).alloc (.cells #[.int .u64 (t 0), .int .u64 (t 1), .int .u64 (t 2)] 23)).heap.size = w.heap.size + 2 := by simp
  obtain ⟨n, hn⟩ : ∃ n, n = w.heap.size + 2 := ⟨_, rfl⟩
  rw [← hn] at hs
  rintro e w1 ⟨rfl, hM⟩
  rw [hs]
  refine absW (fun W => Eng W n (l 0) (l 1) (l 2) ∧ W.cell? ⟨n + 7, 63, none⟩ = some (.map none) ∧ W.cell? ⟨n + 7, 64, none⟩ = some (.int .i64 0) ∧ (∀ o, W.frozen? ⟨n + 7, o, none⟩ = false) ∧ W.heap.size = n + 8 ∧ Below w.heap.size w W ∧ Three W w.heap.size 0 l ∧ Three W (w.heap.size + 1) 0 t) ?_ ?_
  · have hb := ((Below.refl w.heap.size w).alloc (Nat.le_refl _) (.cells #[.int .u64 (l 0), .int .u64 (l 1), .int .u64 (l 2)] 23)).alloc (by simp) (.cells #[.int .u64 (t 0), .int .u64 (t 1), .int .u64 (t 2)] 23)
    have m1 := hM.eng
    have m2 := hM.bounds
    have m3 := hM.gap
    have m4 := hM.fr
    have m5 := hM.sz
    have m6 := hM.bel
    rw [hs] at m1 m2 m3 m4 m5 m6
    refine ⟨m1, m2, m3, m4, m5, hb.trans (m6.mono (by omega)), fun i hi => ?_, fun i hi => ?_⟩
    · rw [m6.cell (p := ⟨w.heap.size, 0 + i, none⟩) (by show w.heap.size < n; omega), World.cell?_alloc_past _ _ _ (by simp), World.cell?_alloc_at _ _ _ _ rfl]
      obtain rfl | rfl | rfl : i = 0 ∨ i = 1 ∨ i = 2 := by omega
      all_goals rfl
    · rw [m6.cell (p := ⟨w.heap.size + 1, 0 + i, none⟩) (by show w.heap.size + 1 < n; omega), World.cell?_alloc_at _ _ _ _ (by simp)]
      obtain rfl | rfl | rfl : i = 0 ∨ i = 1 ∨ i = 2 := by omega
      all_goals rfl
  clear hM
  rintro W ⟨q1, q2, q3, q4, q5, q6, q7, q8⟩
  have HN : Hid (n = w.heap.size + 2) := hn
  have Q1 : Hid (Eng W n (l 0) (l 1) (l 2)) := q1
  have Q6 : Hid (Below w.heap.size w W) := q6
  have Q7 : Hid (Three W w.heap.size 0 l) := q7
  have Q8 : Hid (Three W (w.heap.size + 1) 0 t) := q8
  have t0 := q8 0 (by decide)
  have t1 := q8 1 (by decide)
  have t2 := q8 2 (by decide)
  simp only [Nat.zero_add] at t0 t1 t2
  have q4' := q4 64
  have Q4 : Hid (∀ o, W.frozen? ⟨n + 7, o, none⟩ = false) := q4
  have Q2 : Hid (W.cell? ⟨n + 7, 63, none⟩ = some (.map none)) := q2
  have nn1 : ¬ w.heap.size + 1 = n + 7 := by omega
  have nn2 : ¬ n + 7 = w.heap.size + 1 := by omega
  have nn3 : w.heap.size + 1 < W.heap.size := by omega
  have Q5 : Hid (W.heap.size = n + 8) := q5
  clear q1 q2 q4 q5 q6 q7 q8 hs hn
  go_wp2
  go_region_held3 (fun x => x.cell? ⟨w.heap.size + 1, 0, none⟩ = some (.int .u64 (t 0)) ∧ x.cell? ⟨w.heap.size + 1, 1, none⟩ = some (.int .u64 (t 1)) ∧ x.cell? ⟨w.heap.size + 1, 2, none⟩ = some (.int .u64 (t 2))) (go_keep) ((go_at_call 6; refine (kindbyte_kb k kb hk HK1.out _).mono ?_; rintro e w' ⟨rfl, rfl⟩))
  rw [Q5.out]
  refine absW (fun R => Ready w R n kb k seq gb after l t) (ready_of _ rfl rfl rfl rfl rfl rfl rfl HK2.out HK3.out h0 HN.out Q1.out Q2.out q3 Q4.out Q5.out Q6.out Q7.out Q8.out) ?_
  clear Q1 Q2 Q4 Q5 Q6 Q7 Q8 q3 q4' t0 t1 t2 nn1 nn2 nn3 hb42
  intro R hR
  have HR : Hid (Ready w R n kb k seq gb after l t) := hR
  clear hR
  cases after with
  | false =>
    go_wp2_with fail
    refine (take_plain n (n + 8) kb k seq t R HR.out.env HR.out.b63).mono ?_
    rintro e R2 ⟨rfl, hG⟩
    have hz := HR.out.sz
    have hA : Aft w R2 n seq l t := HR.out.aft (fun b o hb _ => hG.cell b o hb) (hG.bel.mono (by omega))
    have HA : Hid (Aft w R2 n seq l t) := hA
    have b63 := (hG.cell (n + 7) 63 (by omega)).trans HR.out.b63
    have b64 := (hG.cell (n + 7) 64 (by omega)).trans HR.out.b64
    have e2 := hA.e2
    have u0 := hA.e12 0 (by decide)
    have u1 := hA.e12 1 (by decide)
    have u2 := hA.e12 2 (by decide)
    have v0 := hA.late 0 (by decide)
    have v1 := hA.late 1 (by decide)
    have v2 := hA.late 2 (by decide)
    simp only [Nat.zero_add, Nat.reduceAdd] at u0 u1 u2 v0 v1 v2
    have hneq := Ybad.neq23 (t 0) (t 1) (t 2)
    clear hG hA HR hz
    go_wp2
    go_quiet (fail)
    go_wp2
    go_ret
    exact ⟨rfl, below_drewN' HA.out.bel _⟩
  | true =>
    go_wp2_with fail
    refine (take_after n (n + 8) kb k hk seq gb l t R HR.out.env HR.out.eng (by rw [HR.out.sz]; omega) (by rw [HR.out.sz]; omega) (by omega) HR.out.b63 HR.out.b64 HR.out.fr hb1 hb2).mono ?_
    rintro e R2 ⟨rfl, hN, hY⟩
    have hz := HR.out.sz
    have hL : Left w R R2 n k seq gb l t := by
      refine ⟨?_, fun e => ?_, hY⟩
      · cases e : lagOf l t 3 with
        | false => exact HR.out.aft (fun b o hb _ => (hN e).cell b o hb) ((hN e).bel.mono (by omega))
        | true => obtain ⟨bb, mb, hT⟩ := hY e; exact HR.out.aft hT.same hT.bel
      · exact ⟨((hN e).cell (n + 7) 63 (by omega)).trans HR.out.b63, ((hN e).cell (n + 7) 64 (by omega)).trans HR.out.b64⟩
    have HL : Hid (Left w R R2 n k seq gb l t) := hL
    have e2 := hL.1.e2
    have u0 := hL.1.e12 0 (by decide)
    have u1 := hL.1.e12 1 (by decide)
    have u2 := hL.1.e12 2 (by decide)
    have v0 := hL.1.late 0 (by decide)
    have v1 := hL.1.late 1 (by decide)
    have v2 := hL.1.late 2 (by decide)
    simp only [Nat.zero_add, Nat.reduceAdd] at u0 u1 u2 v0 v1 v2
    have hneq := Ybad.neq23 (t 0) (t 1) (t 2)
    clear hN hY hL
    go_wp2
    go_quiet (fail)
    refine absW (fun V => Left w R V n k seq gb l t) (HL.out.drewN _) ?_
    clear HL e2 u0 u1 u2 v0 v1 v2
    intro V hL
    have HL : Hid (Left w R V n k seq gb l t) := hL
    clear hL
    go_wp2
    go_loopw [16, 17, 18] (fun hv lv jv wr => ∃ j : Nat, j ≤ 3 ∧ hv = .int .u64 (hiOf l j) ∧ lv = .bool (lagOf l t j) ∧ jv = .int .i64 j ∧ Left w R wr n k seq gb l t) (fun _ _ jv _ => 3 - (intOf jv).toNat)
    case atStart => exact ⟨0, by decide, rfl, rfl, rfl, HL.out⟩
    case round =>
      clear HL
      obtain ⟨j, hj, rfl, rfl, rfl, hL⟩ := hrel
      have HL : Hid (Left w R wr n k seq gb l t) := hL
      obtain ⟨hi, hhi⟩ : ∃ x, x = hiOf l j := ⟨_, rfl⟩
      obtain ⟨lg, hlg⟩ : ∃ x, x = lagOf l t j := ⟨_, rfl⟩
      have HHI : Hid (hi = hiOf l j) := hhi
      have HLG : Hid (lg = lagOf l t j) := hlg
      rw [← hhi, ← hlg]
      clear hhi hlg
      by_cases hj3 : j < 3
      · have x1 := hL.1.late j hj3
        have x2 := hL.1.last j hj3
        rw [Nat.zero_add] at x1 x2
        have hj1 : (0 : Int) ≤ (j : Int) := by omega
        have hj2 : (j : Int) < 3 := by omega
        clear hL
        by_cases h1 : hi < l j
        all_goals by_cases h2 : l j < t j
        all_goals
          have E1 : Hid (hiOf l (j + 1) = if hi < l j then l j else hi) := by show _ = _; rw [hiOf, ← HHI.out]
          have E2 : Hid (lagOf l t (j + 1) = (lg || decide (l j < t j))) := by show _ = _; rw [lagOf, ← HLG.out]
          go_wp2
          go_quiet (fail)
          go_wp2
          go_roundw
          case rel =>
            refine ⟨j + 1, by omega, ?_, ?_, by go_num, HL.out.drewN _⟩
            · rw [E1.out]; first | rw [if_pos (by omega)] | rw [if_neg (by omega)]
            · rw [E2.out]; first | (rw [decide_eq_true (by omega)]; simp; done) | (rw [decide_eq_false (by omega)]; simp; done)
          case measure => simp [intOf]; omega
      · obtain rfl : j = 3 := by omega
        cases lg with
        | false =>
          have h63 := (hL.2.1 HLG.out.symm).1
          have h64 := (hL.2.1 HLG.out.symm).2
          clear hL
          go_wp2
          go_ret
          exact ⟨rfl, HL.out.1.bel⟩
        | true =>
          obtain ⟨bb, mb, hT⟩ := hL.2.2 HLG.out.symm
          have HT : Hid (Took R wr n bb mb k seq gb (hiOf l 3) l t) := hT
          have HA : Hid (Aft w wr n seq l t) := hL.1
          have h63 := hT.map
          have v0 := hL.1.late 0 (by decide)
          have v1 := hL.1.late 1 (by decide)
          have v2 := hL.1.late 2 (by decide)
          simp only [Nat.zero_add] at v0 v1 v2
          have hlV : w.heap.size + 1 < wr.heap.size := World.block_lt_of_cell? (a := ⟨w.heap.size + 1, 0, none⟩) _ v0
          clear hL hT HL
          rw [show ((3 : Nat) : Int) = 3 from rfl]
          go_wp2
          obtain ⟨V, hV⟩ : ∃ V, V = wr := ⟨_, rfl⟩
          subst hV
          refine absW (fun x => In5 V x k seq hi l t 0) (In5.init V k seq hi l t 23 23) ?_
          clear v0 v1 v2 h63
          intro X hX
          have HX : Hid (In5 V X k seq hi l t 0) := hX
          clear hX
          go_loopw [19, 22] (fun ov jv wr => ∃ j : Nat, j ≤ 3 ∧ ov = .int .i64 (cnt l t k j) ∧ jv = .int .i64 j ∧ In5 V wr k seq hi l t j) (fun _ jv _ => 3 - (intOf jv).toNat)
          case atStart => exact ⟨0, by decide, rfl, rfl, HX.out⟩
          case round =>
            clear HX
            obtain ⟨j, hj, rfl, rfl, hX⟩ := hrel
            have HX : Hid (In5 V wr k seq hi l t j) := hX
            obtain ⟨c, hc⟩ : ∃ c, c = cnt l t k j := ⟨_, rfl⟩
            have HC : Hid (c = cnt l t k j) := hc
            have hcj : c ≤ 3 := by rw [hc]; have := cnt_le l t k j; omega
            rw [← hc]
            clear hc
            by_cases hj3 : j < 3
            · have x1 := (hX.g.cell (w.heap.size + 1) (0 + j) hlV).trans (HA.out.late j hj3)
              have x2 := (hX.g.cell w.heap.size (0 + j) (by omega)).trans (HA.out.last j hj3)
              have x3 := hX.fl j hj3
              have x4 := hX.sd j hj3
              rw [Nat.zero_add] at x1 x2 x3 x4
              have f3 := hX.fr V.heap.size j (.inl rfl)
              have f4 := hX.fr (V.heap.size + 1) j (.inr rfl)
              have hj1 : (0 : Int) ≤ (j : Int) := by omega
              have hj2 : (j : Int) < 3 := by omega
              have nv1 : ¬ w.heap.size + 1 = V.heap.size := by omega
              have nv2 : ¬ w.heap.size = V.heap.size := by omega
              by_cases hjk : j = k
              · have HNX : Hid (In5 V (wr.setCell ⟨V.heap.size, j, none⟩ (.int .u64 hi)) k seq hi l t (j + 1)) := hX.keepSaid hj3 hi (by rw [flAt, if_neg (by omega)]) (.inl hjk)
                have HCN : Hid (cnt l t k (j + 1) = c) := by show _ = _; rw [cnt, show opn l t k j = false by rw [hjk]; exact opn_self, HC.out]; rfl
                clear hX
                subst hjk
                go_wp2
                go_roundw
                case rel => exact ⟨j + 1, by omega, by rw [HCN.out], by go_num, HNX.out⟩
                case measure => simp [intOf]; omega
              · have hjk1 : ((j : Int) == (k : Int)) = false := by simp; omega
                by_cases hl : l j < t j
                · have HNX : Hid (In5 V (wr.setCell ⟨V.heap.size, j, none⟩ (.int .u64 hi)) k seq hi l t (j + 1)) := hX.keepSaid hj3 hi (by rw [flAt, if_neg (fun h => h.2.2 hl)]) (.inr hl)
                  have HCN : Hid (cnt l t k (j + 1) = c + 1) := by show _ = _; rw [cnt, show opn l t k j = true by simp [opn, hjk, hl], HC.out]; rfl
                  clear hX
                  go_wp2
                  go_quiet (fail)
                  go_wp2
                  go_roundw
                  case rel => exact ⟨j + 1, by omega, by rw [HCN.out]; go_num, by go_num, HNX.out.drewN _⟩
                  case measure => simp [intOf]; omega
                · have HH : Hid (∀ d, In5h V ((wr.setCell ⟨V.heap.size, j, none⟩ (.int .u64 hi)).drewN d) k seq hi l t j hi) := fun d => hX.half hj3 hi d
                  have HCN : Hid (cnt l t k (j + 1) = c) := by show _ = _; rw [cnt, show opn l t k j = false by simp [opn, hl], HC.out]; rfl
                  clear hX
                  go_wp2
                  go_quiet (fail)
                  refine absW (fun Y => In5h V Y k seq hi l t j hi) (HH.out _) ?_
                  clear HH x1 x2 x3 x4 f3 f4 HX
                  intro Y hY
                  have HY : Hid (In5h V Y k seq hi l t j hi) := hY
                  have x3 := hY.flj
                  have x4 := hY.sd j hj3
                  rw [Nat.zero_add] at x4
                  have f3 := hY.fr V.heap.size j (.inl rfl)
                  have f4 := hY.fr (V.heap.size + 1) j (.inr rfl)
                  clear hY
                  by_cases hs : hi < seq
                  · have HNX : Hid (In5 V ((Y.setCell ⟨V.heap.size, j, none⟩ (.int .u64 seq)).setCell ⟨V.heap.size + 1, j, none⟩ (.int .u64 0)) k seq hi l t (j + 1)) := (HY.out.set seq).done hj3 (by rw [flAt, if_pos ⟨hj3, hjk, by omega⟩, if_pos hs]) hjk (by omega)
                    go_wp2
                    go_roundw
                    case rel => exact ⟨j + 1, by omega, by rw [HCN.out], by go_num, HNX.out⟩
                    case measure => simp [intOf]; omega
                  · have HNX : Hid (In5 V (Y.setCell ⟨V.heap.size + 1, j, none⟩ (.int .u64 0)) k seq hi l t (j + 1)) := HY.out.done hj3 (by rw [flAt, if_pos ⟨hj3, hjk, by omega⟩, if_neg hs]) hjk (by omega)
                    go_wp2
                    go_roundw
                    case rel => exact ⟨j + 1, by omega, by rw [HCN.out], by go_num, HNX.out⟩
                    case measure => simp [intOf]; omega
            · obtain rfl : j = 3 := by omega
              have hT := HT.out.grew hX.g
              have HT2 : Hid (Took R wr n bb mb k seq gb (hiOf l 3) l t) := hT
              have h63 := hT.map
              have h64 := hT.gap
              rw [gapB_cnt hb1 hb2 3, ← HC.out] at h64
              have hw16 : IntKind.i64.wrap (16 * (c : Int)) = 16 * c := by rw [IntKind.wrap_i64]; omega
              have HB : Hid (Below w.heap.size w wr) := HA.out.bel.trans (hX.g.bel.mono (by omega))
              by_cases hc0 : c = 0
              · have hq : (opn l t k 0 || opn l t k 1 || opn l t k 2) = false := cnt_zero.1 (by rw [← HC.out]; exact hc0)
                have hobj := hT.obj
                rw [hq] at hobj
                have hlook := mapLook0ok wr mb 1 hobj
                have hlen := mapLen wr mb 1 _ hobj
                clear hT hX hq
                go_wp2
                go_ret
                exact ⟨rfl, HB.out⟩
              · have hq : (opn l t k 0 || opn l t k 1 || opn l t k 2) = true := by
                  cases hq : (opn l t k 0 || opn l t k 1 || opn l t k 2) with
                  | true => rfl
                  | false => exact absurd (HC.out.trans (cnt_zero.2 hq)) hc0
                have hobj := hT.obj
                rw [hq, if_pos rfl] at hobj
                have hlook := mapLook1ok wr mb 1 _ hobj
                have hlen := mapLen wr mb 1 _ hobj
                have hF : Fin3 w wr bb V.heap.size k seq hi l t := by
                  rw [← HHI.out] at hT
                  refine ⟨hT.floor, fun i hi3 => ?_, hT.saidk, hX.sd, hT.saido, hT.gapsO, hT.gapsN, ?_, ?_, HB.out⟩
                  · rw [hX.fl i hi3, wfl, if_pos hi3]
                  · exact HA.out.last.keep (fun i _ => hX.g.cell _ _ (by omega))
                  · exact HA.out.late.keep (fun i _ => hX.g.cell _ _ hlV)
                have HF : Hid (Fin3 w wr bb V.heap.size k seq hi l t) := hF
                obtain ⟨a0, a1, a2⟩ := gather3 hF.floor
                obtain ⟨b0, b1, b2⟩ := gather3 hF.wfl
                have hneq := Ybad.neq23 (flAt l t k seq hi 3 0) (flAt l t k seq hi 3 1) (flAt l t k seq hi 3 2)
                simp only [Nat.zero_add] at a1 a2 b1 b2
                clear hT hX hq hF HT2 HT HX HA
                go_wp2
                go_quiet (fail)
                refine absW (fun Y => Fin3 w Y bb V.heap.size k seq hi l t) (HF.out.drewN _) ?_
                clear HF a0 a1 a2 b0 b1 b2 h63 h64 hobj hlook hlen
                intro Y hF
                have HF : Hid (Fin3 w Y bb V.heap.size k seq hi l t) := hF
                clear hF
                rw [show ((3 : Nat) : Int) = 3 from rfl]
                go_wp2
                obtain ⟨zb, hzb⟩ : ∃ z, z = Y.heap.size := ⟨_, rfl⟩
                rw [← hzb]
                refine absW (fun X => Fin3 w X bb V.heap.size k seq hi l t ∧ Three X zb 0 (fun _ => 0)) ⟨HF.out.grew (Grew.alloc _ _), zero3 Y hzb 23⟩ ?_
                clear HF hzb
                intro X hX
                have HX : Hid (Fin3 w X bb V.heap.size k seq hi l t ∧ Three X zb 0 (fun _ => 0)) := hX
                clear hX
                go_loopw [26] (fun mv wr => ∃ m : Nat, m ≤ 3 ∧ mv = .int .i64 m ∧ Fin3 w wr bb V.heap.size k seq hi l t ∧ Three wr zb 0 (fun _ => 0)) (fun mv _ => 3 - (intOf mv).toNat)
                case atStart => exact ⟨0, by decide, rfl, HX.out⟩
                case round =>
                  clear HX
                  obtain ⟨m, hm, rfl, hF, hZ⟩ := hrel
                  have HX : Hid (Fin3 w wr bb V.heap.size k seq hi l t ∧ Three wr zb 0 (fun _ => 0)) := ⟨hF, hZ⟩
                  by_cases hm3 : m < 3
                  · have hm1 : (0 : Int) ≤ (m : Int) := by omega
                    have hm2 : (m : Int) < 3 := by omega
                    by_cases hmk : m = k
                    · subst hmk
                      obtain ⟨a0, a1, a2⟩ := gather3 hF.saidk
                      obtain ⟨b0, b1, b2⟩ := gather3 hF.wsd
                      have hneq := Ybad.neq23 (sdAt l t m 3 0) (sdAt l t m 3 1) (sdAt l t m 3 2)
                      simp only [Nat.zero_add] at b1 b2
                      clear hF hZ
                      go_wp2
                      go_quiet (fail)
                      go_wp2
                      go_roundw
                      case rel => exact ⟨m + 1, by omega, by go_num, HX.out.1.drewN _, HX.out.2⟩
                      case measure => simp [intOf]; omega
                    · have hmk1 : ((m : Int) == (k : Int)) = false := by simp; omega
                      obtain ⟨a0, a1, a2⟩ := gather3 (hF.saido m hm3 hmk)
                      obtain ⟨b0, b1, b2⟩ := gather3 hZ
                      have hneq := Ybad.neq23 0 0 0
                      simp only [Nat.zero_add] at b1 b2
                      clear hF hZ
                      go_wp2
                      go_quiet (fail)
                      go_wp2
                      go_roundw
                      case rel => exact ⟨m + 1, by omega, by go_num, HX.out.1.drewN _, HX.out.2⟩
                      case measure => simp [intOf]; omega
                  · obtain rfl : m = 3 := by omega
                    have HF : Hid (Fin3 w wr bb V.heap.size k seq hi l t) := hF
                    clear hF hZ HX
                    rw [show ((3 : Nat) : Int) = 3 from rfl]
                    go_wp2
                    go_loopw [27] (fun iv wr => ∃ i : Nat, i ≤ 3 ∧ iv = .int .i64 i ∧ Fin3 w wr bb V.heap.size k seq hi l t) (fun iv _ => 3 - (intOf iv).toNat)
                    case atStart => exact ⟨0, by decide, rfl, HF.out⟩
                    case round =>
                      clear HF
                      obtain ⟨i, hi3, rfl, hF⟩ := hrel
                      have HF : Hid (Fin3 w wr bb V.heap.size k seq hi l t) := hF
                      by_cases hlt : i < 3
                      · have hi1 : (0 : Int) ≤ (i : Int) := by omega
                        have hi2 : (i : Int) < 3 := by omega
                        have x1 := hF.late i hlt
                        have x2 := hF.last i hlt
                        rw [Nat.zero_add] at x1 x2
                        cases ho : opn l t k i with
                        | false =>
                          have HO : Hid (i = k ∨ t i ≤ l i) := by
                            show _ ∨ _
                            simp [opn] at ho
                            omega
                          have h1 := hF.gapsN i hlt ho
                          clear hF ho
                          by_cases hik : i = k
                          · subst hik
                            clear HO
                            go_wp2
                            go_quiet (fail)
                            go_wp2
                            go_roundw
                            case rel => exact ⟨i + 1, by omega, by go_num, HF.out.drewN _⟩
                            case measure => simp [intOf]; omega
                          · have hik1 : ((i : Int) == (k : Int)) = false := by simp; omega
                            have hle : t i ≤ l i := HO.out.resolve_left hik
                            clear HO
                            go_wp2
                            go_quiet (fail)
                            go_wp2
                            go_roundw
                            case rel => exact ⟨i + 1, by omega, by go_num, HF.out.drewN _⟩
                            case measure => simp [intOf]; omega
                        | true =>
                          obtain ⟨v, h1, hG⟩ := hF.gapsO i hlt ho
                          obtain ⟨g, c', rfl, _, _, g0, g1⟩ := hG.ex
                          have hne : i ≠ k ∧ l i < t i := by simpa [opn] using ho
                          have hik1 : ((i : Int) == (k : Int)) = false := by simp; omega
                          have hlt1 := hne.2
                          have hneq := Ybad.neq78 (t i) seq
                          clear hF ho hne hG
                          go_wp2
                          go_quiet (fail)
                          go_wp2
                          go_quiet (fail)
                          go_wp2
                          go_roundw
                          case rel => exact ⟨i + 1, by omega, by go_num, HF.out.drewN _⟩
                          case measure => simp [intOf]; omega
                      · obtain rfl : i = 3 := by omega
                        clear hF
                        go_wp2
                        go_ret
                        exact ⟨rfl, HF.out.bel⟩
end Go.Proofs.YbulkdeduDoor

import Derived.Test.YbulkdeduDoorW1
import Derived.Lib.SliceRun
namespace Go.Proofs.YbulkdeduDoor
open Go.RowKit

theorem below_drewN' {B : Nat} {a w : World} (h : Below B a w) (n : Nat) : Below B a (w.drewN n) := ⟨h.os, h.tape, h.output, h.size, h.block⟩

/-- new blocks only -/
structure Grew (w W : World) : Prop where
  cell : ∀ b o : Nat, b < w.heap.size → W.cell? ⟨b, o, none⟩ = w.cell? ⟨b, o, none⟩
  fr : ∀ b o : Nat, b < w.heap.size → W.frozen? ⟨b, o, none⟩ = w.frozen? ⟨b, o, none⟩
  bel : Below w.heap.size w W
theorem Grew.refl (w : World) : Grew w w := ⟨fun _ _ _ => rfl, fun _ _ _ => rfl, Below.refl _ _⟩
theorem Grew.trans {a b c : World} (h : Grew a b) (h' : Grew b c) : Grew a c :=
  ⟨fun k o hk => (h'.cell k o (Nat.lt_of_lt_of_le hk h.bel.size)).trans (h.cell k o hk), fun k o hk => (h'.fr k o (Nat.lt_of_lt_of_le hk h.bel.size)).trans (h.fr k o hk), h.bel.trans (h'.bel.mono h.bel.size)⟩
theorem Grew.alloc (w : World) (o : Obj) : Grew w (w.alloc o) :=
  ⟨fun b k hb => World.cell?_alloc_past o b k hb, fun b k hb => World.frozen?_alloc_past o b k hb, (Below.refl _ w).alloc (Nat.le_refl _) o⟩
theorem Grew.drewN (w : World) (n : Nat) : Grew w (w.drewN n) := ⟨fun _ _ _ => rfl, fun _ _ _ => rfl, below_drewN' (Below.refl _ _) n⟩
theorem Grew.set {w W : World} (h : Grew w W) {p : Addr} (hp : w.heap.size ≤ p.block) (v : Value) : Grew w (W.setCell p v) :=
  ⟨fun b o hb => (World.cell?_setCell_other _ _ _ _ (fun e => by subst e; exact absurd hp (by simp; omega))).trans (h.cell b o hb), fun b o hb => (World.frozen?_setCell _ _ _ _).trans (h.fr b o hb), h.bel.setCell hp v⟩

set_option maxRecDepth 100000 in
theorem kindbyte_any (k : Nat) (hk : k < 3) (w : World) : Calls Ybad.prog 6 #[.int .i64 k] w fun e w' => e = .returned (.int .u8 (if k = 0 then 1 else if k = 1 then 2 else 10)) ∧ w' = w := by
  obtain rfl | rfl | rfl : k = 0 ∨ k = 1 ∨ k = 2 := by omega
  all_goals
    go_enter Ybad.func6, Ybad.ntmps6
    go_wp2
    go_ret
    exact ⟨rfl, rfl⟩

set_option maxRecDepth 100000 in
theorem msgKind_any (vb : Nat) (kb k : Nat) (w : World) (h0 : w.cell? ⟨vb, 0, none⟩ = some (.int .u8 kb)) (hk : w.cell? ⟨0, kb, none⟩ = some (.int .u8 k)) (hb : kb < 256) :
    Calls Ybad.prog 8 #[.pointer (some ⟨vb, 0, none⟩)] w fun e w' => e = .returned (.int .u8 k) ∧ w' = w := by
  go_enter Ybad.func8, Ybad.ntmps8
  go_wp2
  go_ret
  exact ⟨rfl, rfl⟩

set_option maxRecDepth 100000 in
theorem get15_any (eb o tb bb : Nat) (l : Int) (w : World) (h1 : w.cell? ⟨eb, o + 1, none⟩ = some (.slice (some ⟨tb, 0, none⟩) 1 1)) (h2 : w.cell? ⟨tb, 0, none⟩ = some (.pointer (some ⟨bb, 0, none⟩))) (h3 : w.cell? ⟨bb, 0, none⟩ = some (.int .u64 l)) :
    Calls Ybad.prog 15 #[.pointer (some ⟨eb, o, none⟩), .int .i64 0] w fun e w' => e = .returned (.int .u64 l) ∧ w' = w := by
  have hN : ∀ (a : Option Addr) (n c : Nat) (w : World), (binOp .eql 52 (.slice a n c) (.slice none 0 0)).run Ybad.prog w = .ok (.bool a.isNone) w := fun a n c w => Lib.run_eql_slice_nil w 52 88 a n c 0 0 Ybad.underlying52
  go_enter Ybad.func15, Ybad.ntmps15
  go_wp2
  go_ret
  exact ⟨rfl, rfl⟩

set_option maxRecDepth 100000 in
theorem get14_any (eb o tb bb : Nat) (l x : Int) (w : World) (h1 : w.cell? ⟨eb, o + 1, none⟩ = some (.slice (some ⟨tb, 0, none⟩) 1 1)) (h2 : w.cell? ⟨tb, 0, none⟩ = some (.pointer (some ⟨bb, 0, none⟩))) (h3 : w.cell? ⟨bb, 0, none⟩ = some (.int .u64 l)) (h4 : w.cell? ⟨bb, 1, none⟩ = some (.int .u64 x)) 
    (q1 : eb < w.heap.size) (q2 : tb < w.heap.size) (q3 : bb < w.heap.size) :
    Calls Ybad.prog 14 #[.pointer (some ⟨eb, o, none⟩), .int .i64 0] w fun e w' => e = .returned (.agg #[.int .u64 l, .int .u64 x]) ∧ Grew w w' := by
  have hN : ∀ (a : Option Addr) (n c : Nat) (w : World), (binOp .eql 27 (.slice a n c) (.slice none 0 0)).run Ybad.prog w = .ok (.bool a.isNone) w := fun a n c w => Lib.run_eql_slice_nil w 27 87 a n c 0 0 Ybad.underlying27
  go_enter Ybad.func14, Ybad.ntmps14
  go_wp2
  refine bodyPost_ret (results_cell_row rfl _ _ w.heap.size 84 _ (0, 0) _ rfl (heap_alloc_new _ _) Ybad.underlying84 rfl (by kernel_rfl)) rfl ?_
  exact ⟨rfl, Grew.alloc _ _⟩

@[go_sem] theorem Ybad.field84 (l x : Int) (w : World) : (Instr.field 84 (.agg #[.int .u64 l, .int .u64 x]) 0).run Ybad.prog w = .ok (.int .u64 l) w := by kernel_rfl
@[go_sem] theorem Ybad.build23 (a b c : Int) (w : World) : (Instr.build 23 #[(0, .int .u64 a), (1, .int .u64 b), (2, .int .u64 c)]).run Ybad.prog w = .ok (.agg #[.int .u64 a, .int .u64 b, .int .u64 c]) w := by kernel_rfl
theorem get15_or (n : Nat) {l0 : Int} (l1 l2 : Int) (o : Nat) (w : World) (h : Eng w n l0 l1 l2) (ho : o = 48 ∨ o = 55) :
    Calls Ybad.prog 15 #[.pointer (some ⟨n + 7, o, none⟩), .int .i64 0] w fun e w' => e = .returned (.int .u64 (if o = 48 then l1 else l2)) ∧ w' = w := by
  rcases ho with rfl | rfl
  · exact get15_any (n + 7) 48 (n + 5) (n + 2) l1 w h.b1 h.b2 h.b3
  · exact get15_any (n + 7) 55 (n + 6) (n + 3) l2 w h.c1 h.c2 h.c3
theorem Eng.grew {W V : World} {n : Nat} {l0 l1 l2 : Int} (h : Eng W n l0 l1 l2) (hn : n + 7 < W.heap.size) (hg : Grew W V) : Eng V n l0 l1 l2 :=
  h.keep (fun b o hb _ => hg.cell b o (by omega))

set_option maxRecDepth 100000 in
set_option maxHeartbeats 1000000 in
theorem lastTaken_any (n : Nat) (l0 l1 l2 : Int) (w : World) (hE : Eng w n l0 l1 l2) (hn : n + 7 < w.heap.size) :
    Calls Ybad.prog 9 #[.pointer (some ⟨n + 7, 0, none⟩), .int .i64 0] w fun e w' => e = .returned (.agg #[.int .u64 l0, .int .u64 l1, .int .u64 l2]) ∧ Grew w w' := by
  have HE : Hid (Eng w n l0 l1 l2) := hE
  clear hE
  go_enter Ybad.func9, Ybad.ntmps9
  go_wp2
  refine absW (fun W => Grew w W ∧ w.heap.size < W.heap.size ∧ W.cell? ⟨w.heap.size, 0, none⟩ = some (.int .u64 0) ∧ W.cell? ⟨w.heap.size, 1, none⟩ = some (.int .u64 0) ∧ W.cell? ⟨w.heap.size, 2, none⟩ = some (.int .u64 0) ∧ ∀ o, W.frozen? ⟨w.heap.size, o, none⟩ = false) ?_ ?_
  · exact ⟨Grew.alloc _ _, by simp, World.cell?_alloc_at _ _ _ _ rfl, World.cell?_alloc_at _ _ _ _ rfl, World.cell?_alloc_at _ _ _ _ rfl, fun o => World.frozen?_alloc_at _ _ _ _ rfl⟩
  rintro W ⟨hG, hs, r0, r1, r2, fr⟩
  have E1 : Hid (Eng W.drew n l0 l1 l2) := HE.out.grew hn (hG.trans (Grew.drewN W 1))
  have hW : n + 7 < W.drew.heap.size := by show _ < W.heap.size; omega
  have HG : Hid (Grew w W) := hG
  clear hG HE
  go_region_with (first
    | (go_at_call 14; go_must (refine (get14_any (n + 7) 3 (n + 4) (n + 1) l0 0 _ E1.out.a1 E1.out.a2 E1.out.a3 E1.out.a4 (show _ < W.drew.heap.size by omega) (show _ < W.drew.heap.size by omega) (show _ < W.drew.heap.size by omega)).mono ?_); rintro e w2 ⟨rfl, hg2⟩; have r0' := (hg2.cell w.heap.size 0 hs).trans r0; have r1' := (hg2.cell w.heap.size 1 hs).trans r1; have r2' := (hg2.cell w.heap.size 2 hs).trans r2; have f0' := (hg2.fr w.heap.size 0 hs).trans (fr 0); have f1' := (hg2.fr w.heap.size 1 hs).trans (fr 1); have f2' := (hg2.fr w.heap.size 2 hs).trans (fr 2))
    | (go_at_call 15; refine Calls.mono (get15_or n l1 l2 _ _ (E1.out.grew hW hg2) ?_) ?_; (first | exact Or.inl rfl | exact Or.inr rfl); rintro e w3 ⟨rfl, rfl⟩))
  have HGV : Hid (Grew w w3) := HG.out.trans ((Grew.drewN W 1).trans hg2)
  refine absW (fun V => Grew w V ∧ V.cell? ⟨w.heap.size, 0, none⟩ = some (.int .u64 l0) ∧ V.cell? ⟨w.heap.size, 1, none⟩ = some (.int .u64 l1) ∧ V.cell? ⟨w.heap.size, 2, none⟩ = some (.int .u64 l2)) ?_ ?_
  · refine ⟨((HGV.out.set (by simp) _).set (by simp) _).set (by simp) _, ?_, ?_, ?_⟩
    · rw [World.cell?_setCell_other _ _ _ _ (by intro e; cases e), World.cell?_setCell_other _ _ _ _ (by intro e; cases e)]; exact World.cell?_setCell_same _ _ _ r0'
    · rw [World.cell?_setCell_other _ _ _ _ (by intro e; cases e)]; exact World.cell?_setCell_same _ _ _ ((World.cell?_setCell_other _ _ _ _ (by intro e; cases e)).trans r1')
    · exact World.cell?_setCell_same _ _ _ ((World.cell?_setCell_other _ _ _ _ (by intro e; cases e)).trans ((World.cell?_setCell_other _ _ _ _ (by intro e; cases e)).trans r2'))
  clear HGV HG E1 hg2 r0 r1 r2 r0' r1' r2' f0' f1' f2' fr hW
  rintro V ⟨hg, c0, c1, c2⟩
  have HG : Hid (Grew w V) := hg
  clear hg
  go_wp2
  refine bodyPost_ret (v := .agg #[.int .u64 l0, .int .u64 l1, .int .u64 l2]) ?_ rfl ?_
  · simp only [results, show Ybad.f9.results = #[.cell 4 23] from rfl]
    go_simp
  · exact ⟨rfl, HG.out⟩
end Go.Proofs.YbulkdeduDoor

import Derived.Test.YbulkdeceW1
import Derived.Deep.Draws
namespace Go.Proofs.Ybulkdece
open Go.RowKit Plain

/-! ### 'Only S w w'': of the blocks of w those outside S are as they were -/
structure Only (S : List Nat) (w w' : World) : Prop where
  os : w'.os = w.os
  tape : w'.tape = w.tape
  output : w'.output = w.output
  size : w.heap.size ≤ w'.heap.size
  block : ∀ k, k < w.heap.size → k ∉ S → w'.heap[k]? = w.heap[k]?

theorem Only.refl (S : List Nat) (w : World) : Only S w w := ⟨rfl, rfl, rfl, Nat.le_refl _, fun _ _ _ => rfl⟩
theorem Only.trans {S : List Nat} {a b c : World} (h : Only S a b) (k : Only S b c) : Only S a c :=
  ⟨k.os.trans h.os, k.tape.trans h.tape, k.output.trans h.output, Nat.le_trans h.size k.size, fun i hi hS => (k.block i (Nat.lt_of_lt_of_le hi h.size) hS).trans (h.block i hi hS)⟩
theorem Only.mono {S T : List Nat} {w w' : World} (h : Only S w w') (hS : ∀ k, k ∈ S → k ∈ T) : Only T w w' :=
  ⟨h.os, h.tape, h.output, h.size, fun k hk hT => h.block k hk (fun e => hT (hS k e))⟩
theorem Only.drew {S : List Nat} {a w : World} (h : Only S a w) : Only S a w.drew := ⟨h.os, h.tape, h.output, h.size, h.block⟩
theorem Only.drewN {S : List Nat} {a w : World} (h : Only S a w) (n : Nat) : Only S a (w.drewN n) := ⟨h.os, h.tape, h.output, h.size, h.block⟩
theorem Only.alloc {S : List Nat} {a w : World} (h : Only S a w) (o : Obj) : Only S a (w.alloc o) :=
  h.trans ⟨rfl, rfl, rfl, by simp, fun k hk _ => Below.heap_alloc _ _ _ hk⟩
theorem Only.setCell {S : List Nat} {a w : World} (h : Only S a w) {p : Addr} (hp : p.block ∈ S ∨ a.heap.size ≤ p.block) (u : Value) : Only S a (w.setCell p u) :=
  ⟨h.os, h.tape, h.output, by have := h.size; simp; omega, fun k hk hS => by
    rw [Below.heap_setCell _ _ _ _ (fun e => by subst e; rcases hp with hp | hp; exact hS hp; omega)]; exact h.block k hk hS⟩
theorem Only.cell {S : List Nat} {w w' : World} (h : Only S w w') {p : Addr} (hp : p.block < w.heap.size) (hS : p.block ∉ S) : w'.cell? p = w.cell? p := World.cell?_of_block (w := w) (h.block p.block hp hS)
theorem Only.frozen {S : List Nat} {w w' : World} (h : Only S w w') {p : Addr} (hp : p.block < w.heap.size) (hS : p.block ∉ S) : w'.frozen? p = w.frozen? p := World.frozen?_of_block (w := w) (h.block p.block hp hS)
theorem Only.below {S : List Nat} {w w' : World} (h : Only S w w') {B : Nat} (hB : B ≤ w.heap.size) (hS : ∀ k, k ∈ S → B ≤ k) : Below B w w' :=
  ⟨h.os, h.tape, h.output, h.size, fun k hk => h.block k (by omega) (fun e => by have := hS k e; omega)⟩
theorem Only.of_below {S : List Nat} {w w' : World} (h : Below w.heap.size w w') : Only S w w' := ⟨h.os, h.tape, h.output, h.size, fun k hk _ => h.block k hk⟩

theorem Q_lt {w : World} {b o : Nat} {v : Value} (h : w.cell? ⟨b, o, none⟩ = some v) : b < w.heap.size := World.block_lt_of_cell? (a := ⟨b, o, none⟩) _ h

/-! ### The queue in memory -/
structure QW (w : World) (qb hb ab m n : Nat) (h : Nat → E) (A : Nat → Int) : Prop where
  qh : w.cell? ⟨qb, 0, none⟩ = some (.slice (some ⟨hb, 0, none⟩) n m)
  qa : w.cell? ⟨qb, 1, none⟩ = some (.slice (some ⟨ab, 0, none⟩) m m)
  qf : ∀ o, w.frozen? ⟨qb, o, none⟩ = false
  hf : ∀ o, w.frozen? ⟨hb, o, none⟩ = false
  af : ∀ o, w.frozen? ⟨ab, o, none⟩ = false
  ht : ∀ j, j < m → w.cell? ⟨hb, j * 3, none⟩ = some (.int .u64 (h j).t)
  hr : ∀ j, j < m → w.cell? ⟨hb, j * 3 + 1, none⟩ = some (.int .i64 (h j).r)
  hs : ∀ j, j < m → w.cell? ⟨hb, j * 3 + 2, none⟩ = some (.int .i64 (h j).s)
  ac : ∀ i, i < m → w.cell? ⟨ab, i, none⟩ = some (.int .i64 (A i))
  nqh : qb ≠ hb
  nqa : qb ≠ ab
  nha : hb ≠ ab
  lq : qb < w.heap.size
  lh : hb < w.heap.size
  la : ab < w.heap.size

theorem QW.congr {w w' : World} {qb hb ab m n : Nat} {h : Nat → E} {A : Nat → Int} (hQ : QW w qb hb ab m n h A) (hs : w.heap.size ≤ w'.heap.size)
    (h1 : w'.heap[qb]? = w.heap[qb]?) (h2 : w'.heap[hb]? = w.heap[hb]?) (h3 : w'.heap[ab]? = w.heap[ab]?) : QW w' qb hb ab m n h A := by
  have cq : ∀ o, w'.cell? ⟨qb, o, none⟩ = w.cell? ⟨qb, o, none⟩ := fun o => World.cell?_of_block (w := w) h1
  have ch : ∀ o, w'.cell? ⟨hb, o, none⟩ = w.cell? ⟨hb, o, none⟩ := fun o => World.cell?_of_block (w := w) h2
  have ca : ∀ o, w'.cell? ⟨ab, o, none⟩ = w.cell? ⟨ab, o, none⟩ := fun o => World.cell?_of_block (w := w) h3
  have fq : ∀ o, w'.frozen? ⟨qb, o, none⟩ = w.frozen? ⟨qb, o, none⟩ := fun o => World.frozen?_of_block (w := w) h1
  have fh : ∀ o, w'.frozen? ⟨hb, o, none⟩ = w.frozen? ⟨hb, o, none⟩ := fun o => World.frozen?_of_block (w := w) h2
  have fa : ∀ o, w'.frozen? ⟨ab, o, none⟩ = w.frozen? ⟨ab, o, none⟩ := fun o => World.frozen?_of_block (w := w) h3
  exact ⟨(cq _).trans hQ.qh, (cq _).trans hQ.qa, fun o => (fq o).trans (hQ.qf o), fun o => (fh o).trans (hQ.hf o), fun o => (fa o).trans (hQ.af o),
    fun j hj => (ch _).trans (hQ.ht j hj), fun j hj => (ch _).trans (hQ.hr j hj), fun j hj => (ch _).trans (hQ.hs j hj), fun j hj => (ca _).trans (hQ.ac j hj),
    hQ.nqh, hQ.nqa, hQ.nha, Nat.lt_of_lt_of_le hQ.lq hs, Nat.lt_of_lt_of_le hQ.lh hs, Nat.lt_of_lt_of_le hQ.la hs⟩
theorem QW.only {w w' : World} {S : List Nat} {qb hb ab m n : Nat} {h : Nat → E} {A : Nat → Int} (hQ : QW w qb hb ab m n h A) (hO : Only S w w')
    (h1 : qb ∉ S) (h2 : hb ∉ S) (h3 : ab ∉ S) : QW w' qb hb ab m n h A :=
  hQ.congr hO.size (hO.block _ hQ.lq h1) (hO.block _ hQ.lh h2) (hO.block _ hQ.la h3)
theorem QW.alloc {w : World} {qb hb ab m n : Nat} {h : Nat → E} {A : Nat → Int} (hQ : QW w qb hb ab m n h A) (o : Obj) : QW (w.alloc o) qb hb ab m n h A :=
  hQ.only ((Only.refl [] w).alloc o) (by simp) (by simp) (by simp)
theorem QW.drew {w : World} {qb hb ab m n : Nat} {h : Nat → E} {A : Nat → Int} (hQ : QW w qb hb ab m n h A) : QW w.drew qb hb ab m n h A :=
  hQ.only ((Only.refl [] w).drew) (by simp) (by simp) (by simp)
theorem QW.drewN {w : World} {qb hb ab m n : Nat} {h : Nat → E} {A : Nat → Int} (hQ : QW w qb hb ab m n h A) (d : Nat) : QW (w.drewN d) qb hb ab m n h A :=
  hQ.only ((Only.refl [] w).drewN d) (by simp) (by simp) (by simp)

theorem ne_addr {b b' o o' : Nat} (h : b ≠ b' ∨ o ≠ o') : (⟨b, o, none⟩ : Addr) ≠ ⟨b', o', none⟩ := by
  intro e; simp only [Addr.mk.injEq] at e; rcases h with h | h <;> omega

theorem QW.setA {w : World} {qb hb ab m n : Nat} {h : Nat → E} {A : Nat → Int} (hQ : QW w qb hb ab m n h A) {i : Nat} (hi : i < m) (v : Int) :
    QW (w.setCell ⟨ab, i, none⟩ (.int .i64 v)) qb hb ab m n h (upd A i v) := by
  have o : ∀ b o, b ≠ ab → (w.setCell ⟨ab, i, none⟩ (.int .i64 v)).cell? ⟨b, o, none⟩ = w.cell? ⟨b, o, none⟩ :=
    fun b o hb => World.cell?_setCell_other _ _ _ _ (ne_addr (.inl (Ne.symm hb)))
  refine ⟨(o _ _ hQ.nqa).trans hQ.qh, (o _ _ hQ.nqa).trans hQ.qa, ?_, ?_, ?_, fun j hj => (o _ _ hQ.nha).trans (hQ.ht j hj), fun j hj => (o _ _ hQ.nha).trans (hQ.hr j hj), fun j hj => (o _ _ hQ.nha).trans (hQ.hs j hj),
    fun j hj => ?_, hQ.nqh, hQ.nqa, hQ.nha, ?_, ?_, ?_⟩
  · intro x; rw [World.frozen?_setCell]; exact hQ.qf x
  · intro x; rw [World.frozen?_setCell]; exact hQ.hf x
  · intro x; rw [World.frozen?_setCell]; exact hQ.af x
  · by_cases e : j = i
    · subst e; rw [World.cell?_setCell_same _ _ _ (hQ.ac j hj), upd_same]
    · rw [World.cell?_setCell_other _ _ _ _ (ne_addr (.inr (Ne.symm e))), upd_other _ _ e]; exact hQ.ac j hj
  · simpa using hQ.lq
  · simpa using hQ.lh
  · simpa using hQ.la

theorem QW.putH {w : World} {qb hb ab m n : Nat} {h : Nat → E} {A : Nat → Int} (hQ : QW w qb hb ab m n h A) {k : Nat} (hk : k < m) (t r s : Int) :
    QW (((w.setCell ⟨hb, k * 3, none⟩ (.int .u64 t)).setCell ⟨hb, k * 3 + 1, none⟩ (.int .i64 r)).setCell ⟨hb, k * 3 + 2, none⟩ (.int .i64 s)) qb hb ab m n (upd h k ⟨t, r, s⟩) A := by
  have o : ∀ b o, (b ≠ hb ∨ (o ≠ k * 3 ∧ o ≠ k * 3 + 1 ∧ o ≠ k * 3 + 2)) → (((w.setCell ⟨hb, k * 3, none⟩ (.int .u64 t)).setCell ⟨hb, k * 3 + 1, none⟩ (.int .i64 r)).setCell ⟨hb, k * 3 + 2, none⟩ (.int .i64 s)).cell? ⟨b, o, none⟩ = w.cell? ⟨b, o, none⟩ := by
    intro b o hbo
    rw [World.cell?_setCell_other _ _ _ _ (ne_addr (by omega)), World.cell?_setCell_other _ _ _ _ (ne_addr (by omega)), World.cell?_setCell_other _ _ _ _ (ne_addr (by omega))]
  have nqh := hQ.nqh
  have nha := hQ.nha
  refine ⟨(o _ _ (.inl hQ.nqh)).trans hQ.qh, (o _ _ (.inl hQ.nqh)).trans hQ.qa, ?_, ?_, ?_, fun j hj => ?_, fun j hj => ?_, fun j hj => ?_,
    fun j hj => (o _ _ (.inl (Ne.symm hQ.nha))).trans (hQ.ac j hj), hQ.nqh, hQ.nqa, hQ.nha, ?_, ?_, ?_⟩
  · intro x; simp only [World.frozen?_setCell]; exact hQ.qf x
  · intro x; simp only [World.frozen?_setCell]; exact hQ.hf x
  · intro x; simp only [World.frozen?_setCell]; exact hQ.af x
  · by_cases e : j = k
    · subst e
      rw [World.cell?_setCell_other _ _ _ _ (ne_addr (by omega)), World.cell?_setCell_other _ _ _ _ (ne_addr (by omega)), World.cell?_setCell_same _ _ _ (hQ.ht j hj), upd_same]
    · rw [o _ _ (by omega), upd_other _ _ e]; exact hQ.ht j hj
  · by_cases e : j = k
    · subst e
      rw [World.cell?_setCell_other _ _ _ _ (ne_addr (by omega)), World.cell?_setCell_same _ _ _ (by rw [World.cell?_setCell_other _ _ _ _ (ne_addr (by omega))]; exact hQ.hr j hj), upd_same]
    · rw [o _ _ (by omega), upd_other _ _ e]; exact hQ.hr j hj
  · by_cases e : j = k
    · subst e
      rw [World.cell?_setCell_same _ _ _ (by rw [World.cell?_setCell_other _ _ _ _ (ne_addr (by omega)), World.cell?_setCell_other _ _ _ _ (ne_addr (by omega))]; exact hQ.hs j hj), upd_same]
    · rw [o _ _ (by omega), upd_other _ _ e]; exact hQ.hs j hj
  · simpa using hQ.lq
  · simpa using hQ.lh
  · simpa using hQ.la

/-- the queue's first field is resliced -/
theorem QW.setN {w : World} {qb hb ab m n : Nat} {h : Nat → E} {A : Nat → Int} (hQ : QW w qb hb ab m n h A) (n' : Nat) :
    QW (w.setCell ⟨qb, 0, none⟩ (.slice (some ⟨hb, 0, none⟩) n' m)) qb hb ab m n' h A := by
  have o : ∀ b o, (b ≠ qb ∨ o ≠ 0) → (w.setCell ⟨qb, 0, none⟩ (.slice (some ⟨hb, 0, none⟩) n' m)).cell? ⟨b, o, none⟩ = w.cell? ⟨b, o, none⟩ :=
    fun b o hb => World.cell?_setCell_other _ _ _ _ (ne_addr (by omega))
  refine ⟨World.cell?_setCell_same _ _ _ hQ.qh, (o _ _ (.inr (by omega))).trans hQ.qa, ?_, ?_, ?_, fun j hj => (o _ _ (.inl (Ne.symm hQ.nqh))).trans (hQ.ht j hj), fun j hj => (o _ _ (.inl (Ne.symm hQ.nqh))).trans (hQ.hr j hj), fun j hj => (o _ _ (.inl (Ne.symm hQ.nqh))).trans (hQ.hs j hj),
    fun j hj => (o _ _ (.inl (Ne.symm hQ.nqa))).trans (hQ.ac j hj), hQ.nqh, hQ.nqa, hQ.nha, ?_, ?_, ?_⟩
  · intro x; rw [World.frozen?_setCell]; exact hQ.qf x
  · intro x; rw [World.frozen?_setCell]; exact hQ.hf x
  · intro x; rw [World.frozen?_setCell]; exact hQ.af x
  · simpa using hQ.lq
  · simpa using hQ.lh
  · simpa using hQ.la

/-- THE WORLD UNDER A NAME OF ITS OWN: all that is known of it is F. -/
theorem absW {P : World → Prop} {w : World} (F : World → Prop) (hF : F w) (h : ∀ W, F W → P W) : P w := h w hF
end Go.Proofs.Ybulkdece

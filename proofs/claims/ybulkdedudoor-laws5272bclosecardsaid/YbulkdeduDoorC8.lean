import Derived.Test.YbulkdeduDoorC7
import Derived.Test.YbulkdeduDoorLen
import Derived.Laws.StructEq
import Derived.LaidEqlPtr
namespace Go.Proofs.YbulkdeduDoor
open Go.RowKit Go.ChangeMaps Go.MapKept

theorem kindbyte_kb2 (k kb : Nat) (hk : k < 3) (h : kb = (if k = 0 then 1 else if k = 1 then 2 else 10)) (w : World) : Calls Ybad.prog 6 #[.int .i64 k] w fun e w' => e = .returned (.int .u8 (kb : Int)) ∧ w' = w := by
  refine (kindbyte_any k hk w).mono ?_
  rintro e w' ⟨rfl, rfl⟩
  refine ⟨?_, rfl⟩
  subst h
  obtain rfl | rfl | rfl : k = 0 ∨ k = 1 ∨ k = 2 := by omega
  all_goals rfl

theorem Ybad.held78b : Ybad.prog.stoodInHeld 78 = false := by kernel_rfl
theorem Ybad.fields78b : Ybad.prog.underlying 78 = some (.struct (Ybad.prog.fieldsOf 78)) := by kernel_rfl
theorem Ybad.eq78b (a b : Int) (w : World) : (Op.equalIn 10000 78 (.agg #[.int .u64 a, .int .u64 b]) (.agg #[.int .u64 a, .int .u64 b])).run Ybad.prog w = .ok true w := by
  rw [run_equalIn_struct w 9999 78 _ _ Ybad.fields78b Ybad.held78b]
  have hq : ∀ x : Int, (Op.equalIn 9999 22 (.int .u64 x) (.int .u64 x)).run Ybad.prog w = .ok true w := fun x => by rw [run_equalIn_int w 9998 22 .u64 .u64 x x Ybad.underlying22]; simp
  have p0 : ∀ (x y : Value) (w : World), (part 22 #[x, y] 0).run Ybad.prog w = .ok x w := fun x y w => by kernel_rfl
  have p1 : ∀ (x y : Value) (w : World), (part 22 #[x, y] 1).run Ybad.prog w = .ok y w := fun x y w => by kernel_rfl
  have hf : ((Ybad.prog.fieldsOf 78).toList.map fun f => (f.type, f.offset)) = [(22, 0), (22, 1)] := by kernel_rfl
  obtain ⟨n1, n2, e, t1, t2, o1, o2⟩ : ∃ n1 n2 : Field, (Ybad.prog.fieldsOf 78).toList = [n1, n2] ∧ n1.type = 22 ∧ n2.type = 22 ∧ n1.offset = 0 ∧ n2.offset = 1 := by
    revert hf
    generalize (Ybad.prog.fieldsOf 78).toList = L
    intro hf
    rcases L with _ | ⟨n1, _ | ⟨n2, _ | ⟨n3, L⟩⟩⟩
    · simp at hf
    · simp at hf
    · simp at hf
      exact ⟨n1, n2, rfl, hf.1.1, hf.2.1, hf.1.2, hf.2.2⟩
    · simp at hf
  rw [e]
  by_cases h1 : n1.name ≠ "_"
  all_goals by_cases h2 : n2.name ≠ "_"
  all_goals simp [Op.eqFields, h1, h2, t1, t2, o1, o2, p0, p1, hq]
theorem Ybad.neq78b (a b : Int) (w : World) : (binOp .neq 78 (.agg #[.int .u64 a, .int .u64 b]) (.agg #[.int .u64 a, .int .u64 b])).run Ybad.prog w = .ok (.bool false) w := by
  simp only [binOp]
  simp [Op.equal, Op.maxDepth, Ybad.eq78b]
theorem Ybad.neq74 (w : World) : (binOp .neq 74 (.agg #[.int .u64 0, .int .u64 0, .int .u64 0, .int .u64 0, .int .u64 0, .int .u64 0, .int .u64 0, .int .u64 0, .int .u64 0]) (.agg #[.int .u64 0, .int .u64 0, .int .u64 0, .int .u64 0, .int .u64 0, .int .u64 0, .int .u64 0, .int .u64 0, .int .u64 0])).run Ybad.prog w = .ok (.bool false) w := by kernel_rfl

theorem Ybad.info76 : (Ybad.prog.info? 76).isSome = true := by kernel_rfl
theorem ptrSame (b : Nat) (w : World) : (binOp .eql 70 (.pointer (some ⟨b, 0, none⟩)) (.pointer (some ⟨b, 0, none⟩))).run Ybad.prog w = .ok (.bool true) w := by
  obtain ⟨i, hi⟩ := Option.isSome_iff_exists.1 Ybad.info76
  exact run_eql_ptr_same w ⟨b, 0, none⟩ Ybad.underlying70 hi

section
variable {w M : World} {n g mB bb k fb j : Nat} {ao : Option Addr} {m cp c : Nat} {F l f wf wf' : Nat → Int} {gb seq : Int}

theorem Gd.set (h : Gd w M n g mB bb k ao m cp c F l f gb seq) {b o : Nat} (hb : n + 8 < b) (v : Value) : Gd w (M.setCell ⟨b, o, none⟩ v) n g mB bb k ao m cp c F l f gb seq := by
  have q1 := h.o1
  have q2 := h.o2
  obtain ⟨q3, q4⟩ := h.o3
  have hgs : ∀ j, j < 2 * (m - c) → g < bb := fun j hj => h.o4 (fun e => by have := h.nil e; omega)
  exact ⟨h.isC, (other _ (by omega)).trans h.map, (Below.heap_setCell _ _ _ _ (by simp; omega)).trans h.obj, (other _ (by omega)).trans h.gap, h.floor.keep (fun i _ => other _ (by omega)), (other _ (by omega)).trans h.gapk, fun i hi hk => (other _ (by omega)).trans (h.gapo i hi hk), fun i hi => (other _ (by omega)).trans (h.said i hi), fun j hj => (other _ (by have := hgs j hj; omega)).trans (h.cells j hj), fun j hj => (other _ (by omega)).trans (h.mine j hj), h.last.keep (fun i _ => other _ (by omega)), h.flo.keep (fun i _ => other _ (by omega)), h.nil, h.at', h.le, h.bel.setCell (p := ⟨b, o, none⟩) (by show w.heap.size ≤ b; omega) v, q1, by rw [World.size_setCell]; exact q2, h.o3, h.o4⟩

/-- the law's own floors, in a block of its own -/
structure Ge (w M : World) (n g mB bb k : Nat) (ao : Option Addr) (m cp c : Nat) (F l f : Nat → Int) (gb seq : Int) (fb : Nat) (wf : Nat → Int) : Prop where
  gd : Gd w M n g mB bb k ao m cp c F l f gb seq
  wf : Three M fb 0 wf
  fr : ∀ o, M.frozen? ⟨fb, o, none⟩ = false
  o : n + 8 < fb
  lt : fb < M.heap.size
theorem Ge.init (h : Gd w M n g mB bb k ao m cp c F l f gb seq) (a : TypeId) : Ge w (M.alloc (.cells #[.int .u64 (f 0), .int .u64 (f 1), .int .u64 (f 2)] a)) n g mB bb k ao m cp c F l f gb seq M.heap.size f := by
  refine ⟨h.grew (Grew.alloc _ _), fun i hi => ?_, fun o => World.frozen?_alloc_at _ _ _ _ rfl, h.o2, by simp⟩
  rw [World.cell?_alloc_at _ _ _ _ rfl]
  obtain rfl | rfl | rfl : i = 0 ∨ i = 1 ∨ i = 2 := by omega
  all_goals rfl
theorem Ge.eqf (h : Ge w M n g mB bb k ao m cp c F l f gb seq fb wf) (hf : ∀ i, i < 3 → wf i = wf' i) : Ge w M n g mB bb k ao m cp c F l f gb seq fb wf' := ⟨h.gd, fun i hi => by rw [← hf i hi]; exact h.wf i hi, h.fr, h.o, h.lt⟩
theorem Ge.drewN (h : Ge w M n g mB bb k ao m cp c F l f gb seq fb wf) (d : Nat) : Ge w (M.drewN d) n g mB bb k ao m cp c F l f gb seq fb wf := ⟨h.gd.drewN d, h.wf, h.fr, h.o, h.lt⟩
theorem Ge.set (h : Ge w M n g mB bb k ao m cp c F l f gb seq fb wf) (j : Nat) (x : Int) (hf : ∀ i, i < 3 → (if i = j then x else wf i) = wf' i) : Ge w (M.setCell ⟨fb, j, none⟩ (.int .u64 x)) n g mB bb k ao m cp c F l f gb seq fb wf' := by
  refine ⟨h.gd.set h.o _, fun i hi => ?_, fun o => (World.frozen?_setCell _ _ _ _).trans (h.fr o), h.o, by rw [World.size_setCell]; exact h.lt⟩
  rw [← hf i hi]
  by_cases e : i = j
  · subst e
    have h0 := h.wf i hi
    rw [Nat.zero_add] at h0 ⊢
    rw [World.cell?_setCell_same _ _ _ h0, if_pos rfl]
  · rw [other _ (by omega), h.wf i hi, if_neg e]

/-- the law's floors behind i closed gaps -/
def wfi (F f : Nat → Int) (k i q : Nat) : Int := if q = k then flC F (f k) i else f q
/-- .. and the first j others raised -/
def wfj (F f : Nat → Int) (k c : Nat) (seq : Int) (j q : Nat) : Int := if q = k then flC F (f k) c else if q < j then mx (f q) seq else f q
theorem Ge.init0 (h : Gd w M n g mB bb k ao m cp c F l f gb seq) (a : TypeId) : Ge w (M.alloc (.cells #[.int .u64 (f 0), .int .u64 (f 1), .int .u64 (f 2)] a)) n g mB bb k ao m cp c F l f gb seq M.heap.size (wfi F f k 0) := by
  refine (Ge.init h a).eqf (fun i _ => ?_)
  by_cases e : i = k
  · rw [wfi, if_pos e, e]; rfl
  · rw [wfi, if_neg e]
/-- a gap closed: the floor raised, or not -/
theorem Ge.up (h : Ge w M n g mB bb k ao m cp c F l f gb seq fb (wfi F f k j)) (hu : flC F (f k) j < F (2 * j + 1)) : Ge w (M.setCell ⟨fb, k, none⟩ (.int .u64 (F (2 * j + 1)))) n g mB bb k ao m cp c F l f gb seq fb (wfi F f k (j + 1)) :=
  h.set k _ (fun i _ => by
    by_cases e : i = k
    · rw [if_pos e, wfi, if_pos e, flC, if_pos hu]
    · rw [if_neg e, wfi, wfi, if_neg e, if_neg e])
theorem Ge.stay (h : Ge w M n g mB bb k ao m cp c F l f gb seq fb (wfi F f k j)) (hu : ¬ flC F (f k) j < F (2 * j + 1)) : Ge w M n g mB bb k ao m cp c F l f gb seq fb (wfi F f k (j + 1)) :=
  h.eqf (fun i _ => by
    by_cases e : i = k
    · rw [wfi, wfi, if_pos e, if_pos e, flC, if_neg hu]
    · rw [wfi, wfi, if_neg e, if_neg e])
theorem Ge.third (h : Ge w M n g mB bb k ao m cp c F l f gb seq fb (wfi F f k c)) : Ge w M n g mB bb k ao m cp c F l f gb seq fb (wfj F f k c seq 0) :=
  h.eqf (fun i _ => by
    by_cases e : i = k
    · rw [wfi, wfj, if_pos e, if_pos e]
    · rw [wfi, wfj, if_neg e, if_neg e, if_neg (by omega)])
theorem Ge.raise (h : Ge w M n g mB bb k ao m cp c F l f gb seq fb (wfj F f k c seq j)) (hjk : j ≠ k) (hs : f j < seq) : Ge w (M.setCell ⟨fb, j, none⟩ (.int .u64 seq)) n g mB bb k ao m cp c F l f gb seq fb (wfj F f k c seq (j + 1)) :=
  h.set j _ (fun i _ => by
    by_cases e : i = j
    · rw [if_pos e, wfj, if_neg (by omega), if_pos (by omega), e, mx, if_pos hs]
    · by_cases e2 : i = k
      · rw [if_neg e, wfj, wfj, if_pos e2, if_pos e2]
      · by_cases e3 : i < j
        · rw [if_neg e, wfj, wfj, if_neg e2, if_neg e2, if_pos e3, if_pos (by omega)]
        · rw [if_neg e, wfj, wfj, if_neg e2, if_neg e2, if_neg e3, if_neg (by omega)])
theorem Ge.pass (h : Ge w M n g mB bb k ao m cp c F l f gb seq fb (wfj F f k c seq j)) (hs : j = k ∨ ¬ f j < seq) : Ge w M n g mB bb k ao m cp c F l f gb seq fb (wfj F f k c seq (j + 1)) :=
  h.eqf (fun i _ => by
    by_cases e2 : i = k
    · rw [wfj, wfj, if_pos e2, if_pos e2]
    · by_cases e3 : i < j
      · rw [wfj, wfj, if_neg e2, if_neg e2, if_pos e3, if_pos (by omega)]
      · by_cases e : i = j
        · rw [wfj, wfj, if_neg e2, if_neg e2, if_neg e3, if_pos (by omega), mx, if_neg (by rw [e]; rcases hs with h | h; · omega
                                                                                           · exact h)]
        · rw [wfj, wfj, if_neg e2, if_neg e2, if_neg e3, if_neg (by omega)])
theorem wfj3 {i : Nat} (hi : i < 3) : wfj F f k c seq 3 i = (fun i => if i = k then flC F (f k) c else mx (f i) seq) i := by
  by_cases e : i = k
  · rw [wfj, if_pos e]; dsimp only; rw [if_pos e]
  · rw [wfj, if_neg e, if_pos hi]; dsimp only; rw [if_neg e]
/-- nine zeros in a block -/
def Nine (M : World) (b o : Nat) : Prop := ∀ i, i < 9 → M.cell? ⟨b, o + i, none⟩ = some (.int .u64 0)
theorem Nine.init (M : World) (a : TypeId) : Nine (M.alloc (.cells #[.int .u64 0, .int .u64 0, .int .u64 0, .int .u64 0, .int .u64 0, .int .u64 0, .int .u64 0, .int .u64 0, .int .u64 0] a)) M.heap.size 0 := fun i hi => by
  rw [World.cell?_alloc_at _ _ _ _ rfl]
  obtain rfl | rfl | rfl | rfl | rfl | rfl | rfl | rfl | rfl : i = 0 ∨ i = 1 ∨ i = 2 ∨ i = 3 ∨ i = 4 ∨ i = 5 ∨ i = 6 ∨ i = 7 ∨ i = 8 := by omega
  all_goals rfl
end
end Go.Proofs.YbulkdeduDoor

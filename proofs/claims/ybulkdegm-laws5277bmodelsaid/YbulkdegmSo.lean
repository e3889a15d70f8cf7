/- slices.Sort at []time.Duration off the shelf; slices.Sorted over the closure of slices.Values. -/
import Derived.Shelf.SortM.Plain
import Derived.Shelf.SortM.SortNone
import Derived.Ground.SlgmProg
import Derived.Lib.SlKeysI
import Derived.Test.YbulkdegmIt
namespace Go.Proofs.Ybulkdegm
open Go.RowKit Go.Shelf Go.Sort
shelf_lay_g SlLaysM.n5 Slgm 5 at Yba 14 as Yba.sortA

theorem sort_some (blk off cap : Nat) (zs : List Int) (w : World) (hH : Holds (Value.int .i64) w blk off zs.toArray) (hblk : blk < w.heap.size) (hsz : zs.length < 4611686018427387904) :
    Calls Yba.prog 14 #[.slice (some ⟨blk, off, none⟩) zs.length cap] w fun e w' =>
      e = .returned (.tuple #[]) ∧ ∃ n os, w' = grow (putRow (Value.int .i64) (Sort.ahead w n) blk off (zs.mergeSort fun x y => decide (x ≤ y)).toArray) os := AnyM.slices_Sort_int Yba.sortA blk off cap zs w hH hblk hsz

set_option maxRecDepth 100000 in
set_option maxHeartbeats 1000000 in
/-- slices.Sorted(slices.Values(s)), s not empty -/
theorem sorted_any (Bs : Nat) (sv : Value) (zs : List Int) (hne : zs ≠ []) (hlen : zs.length ≤ 1024) (w : World) (hBs : Bs < w.heap.size) (hc : w.cell? ⟨Bs, 0, none⟩ = some sv) (hI : IntsAt w.heap.size w sv zs) :
    Calls Yba.prog 10 #[.func (.func 15) #[] #[.pointer (some ⟨Bs, 0, none⟩)]] w fun e W' => ∃ g c, e = .returned (.slice (some ⟨g, 0, none⟩) zs.length c) ∧ zs.length ≤ c ∧ (∀ j, j < zs.length → W'.cell? ⟨g, j, none⟩ = some (.int .i64 ((zs.mergeSort fun x y => decide (x ≤ y))[j]?.getD 0))) ∧ Below w.heap.size w W' := by
  have hC := (callsIn_wide (n := 6)).1 (collect_in Fence.wide 6 trivial trivial trivial rfl (by omega) Bs sv zs hlen w hBs hc hI)
  go_enter Yba.func10, Yba.ntmps10
  go_wp2_with fail
  refine hC.mono ?_
  rintro e W ⟨v, rfl, hrow, hnil, hb⟩
  clear hC
  rcases hrow.2 with ⟨rfl, hz⟩ | ⟨g, cap, cur, rfl, hbase, hgb, r1, r2, r3, r4⟩
  · exact absurd (List.eq_nil_of_length_eq_zero hz) hne
  · have hH : Holds (Value.int .i64) W g 0 zs.toArray := holds_of_block_i hgb (by simpa using r4)
    have hgl : g < W.heap.size := (Array.getElem?_eq_some_iff.1 hgb).1
    have cS := sort_some g 0 cap zs W hH hgl (by omega)
    have HO : Hid (∀ n os, (grow (putRow (Value.int .i64) (Sort.ahead W n) g 0 (zs.mergeSort fun x y => decide (x ≤ y)).toArray) os).ownsRow w.heap.size 24 1 (.slice (some ⟨g, 0, none⟩) zs.length cap) zs.length ((zs.mergeSort fun x y => decide (x ≤ y)).map encZ)) := fun n os => ownsRow_sorted_i (by simp) hbase hgb r1 r2 r3
    have HB : Hid (∀ n os, Below w.heap.size w (grow (putRow (Value.int .i64) (Sort.ahead W n) g 0 (zs.mergeSort fun x y => decide (x ≤ y)).toArray) os)) := fun n os => hb.grown (grownBy_sorted_i _) hb.size (fun j hj => by cases hj; exact hbase)
    have HR : Hid (zs.length ≤ cap) := r1
    clear hH hgl hgb r1 r2 r3 r4 hrow hnil hb
    go_wp2_with fail
    refine cS.mono ?_
    rintro e W2 ⟨rfl, n, os, rfl⟩
    have HX : Hid (∀ j, j < zs.length → (grow (putRow (Value.int .i64) (Sort.ahead W n) g 0 (zs.mergeSort fun x y => decide (x ≤ y)).toArray) os).cell? ⟨g, j, none⟩ = some (.int .i64 ((zs.mergeSort fun x y => decide (x ≤ y))[j]?.getD 0))) := fun j hj => by
      have h := (HO.out n os).cellAt j (by omega)
      have hl : j < (zs.mergeSort fun x y => decide (x ≤ y)).length := by simp; exact hj
      rw [List.getElem?_map, List.getElem?_eq_getElem hl] at h
      rw [h, List.getElem?_eq_getElem hl]; rfl
    have HB2 := HB.out n os
    have HB3 : Hid (Below w.heap.size w (grow (putRow (Value.int .i64) (Sort.ahead W n) g 0 (zs.mergeSort fun x y => decide (x ≤ y)).toArray) os)) := HB2
    clear cS HB2 HB HO
    go_wp2
    go_ret
    exact ⟨g, cap, rfl, HR.out, HX.out, HB3.out⟩
end Go.Proofs.Ybulkdegm

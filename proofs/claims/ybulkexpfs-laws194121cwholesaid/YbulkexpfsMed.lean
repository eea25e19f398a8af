/- slices.Collect, slices.Sorted, Median over this program. -/
import Derived.Test.YbulkexpfsIter
namespace Go.Proofs.Ybulkexpfs
open Go.RowKit Go.Shelf Go.Sort

attribute [local go_sem] run_store_float

theorem holds_blockF {w : World} {g : Nat} {cur : Array Value} {e : TypeId} {zs : List Nat} (hb : w.heap[g]? = some (.cells cur e (0, 0))) (ht : cur.toList.take zs.length = zs.map encF) : Holds encF w g 0 zs.toArray := by
  intro j hj
  have hj' : j < zs.length := by simpa using hj
  refine ⟨?_, by simp [World.frozen?, hb]⟩
  have h1 : (cur.toList.take zs.length)[j]? = (zs.map encF)[j]? := by rw [ht]
  rw [List.getElem?_take_of_lt hj'] at h1
  simp only [World.cell?, hb, Nat.zero_add]
  simp only [Option.isSome_none, Bool.false_eq_true, if_false]
  rw [← Array.getElem?_toList, h1]
  simp [hj']

theorem grownBy_sortedF {w : World} {g n : Nat} {os : Array Obj} (d : Array Nat) : w.grownBy (grow (putRow encF (Sort.ahead w n) g 0 d) os) (some g) := by
  refine ⟨rfl, rfl, rfl, by simp, fun k hk hne => ?_⟩
  rw [heap_grow_old _ _ (by simpa using hk)]
  have : g ≠ k := fun e => hne (by rw [e])
  simp [putRow, mapBlock, Sort.ahead, Array.getElem?_modify, this]

theorem collect_any (Bs b off cap : Nat) (zs : List Nat) (hlen : zs.length ≤ 4096) (w : World) (hBs : Bs < w.heap.size) (hb : b < w.heap.size)
    (hc : w.cell? ⟨Bs, 0, none⟩ = some (.slice (some ⟨b, off, none⟩) zs.length cap)) (hI : ∀ j, j < zs.length → w.cell? ⟨b, off + j, none⟩ = some (.float .f64 (zs[j]?.getD 0))) :
    Calls Yba.prog 8 #[.func (.func 10) #[] #[.pointer (some ⟨Bs, 0, none⟩)]] w fun e W' => ∃ v, e = .returned v ∧ W'.ownsRow w.heap.size 23 1 v zs.length (zs.map encF) ∧ (v = .slice none 0 0 ↔ zs = []) ∧ RowKit.Below w.heap.size w W' := by
  have hA := callsIn_wide.1 (appendSeq_in Fence.wide 3 trivial trivial rfl (Nat.le_refl _) Bs w.heap.size b off cap zs (by unfold maxLen; omega) (by omega) w hBs (Nat.le_refl _) hb hc hI)
  clear hc hI
  go_enter Yba.func8, Yba.ntmps8
  go_wp2_with (go_at_call 11; refine hA.mono ?_; rintro e w' ⟨v, rfl, hrow, hnil, hbl⟩)
  go_ret
  exact ⟨v, rfl, hrow, hnil, hbl⟩

theorem sorted_any (Bs b off cap : Nat) (zs : List Nat) (h0 : 0 < zs.length) (hlen : zs.length ≤ 4096) (w : World) (hBs : Bs < w.heap.size) (hb : b < w.heap.size)
    (hc : w.cell? ⟨Bs, 0, none⟩ = some (.slice (some ⟨b, off, none⟩) zs.length cap)) (hI : ∀ j, j < zs.length → w.cell? ⟨b, off + j, none⟩ = some (.float .f64 (zs[j]?.getD 0))) :
    Calls Yba.prog 6 #[.func (.func 10) #[] #[.pointer (some ⟨Bs, 0, none⟩)]] w fun e W' => ∃ (ys : List Nat) (g cap' : Nat), e = .returned (.slice (some ⟨g, 0, none⟩) zs.length cap') ∧ ys.Perm zs ∧ ys.Pairwise (fun x y => ltF y x = false) ∧
      (∀ j, j < zs.length → W'.cell? ⟨g, 0 + j, none⟩ = some (.float .f64 ys.toArray[j]!)) ∧ RowKit.Below w.heap.size w W' := by
  have hA := collect_any Bs b off cap zs hlen w hBs hb hc hI
  clear hc hI
  go_enter Yba.func6, Yba.ntmps6
  go_wp2_with (go_at_call 8; refine hA.mono ?_; rintro e w1 ⟨v, rfl, hrow, hnil, hbl⟩)
  rcases hrow.2 with ⟨hn, hn0⟩ | ⟨g, cap', cur, rfl, hbase, hbk, c1, c2, c3, c4⟩
  · omega
  have hH := holds_blockF hbk (by simpa using c4)
  have hg : g < w1.heap.size := (Array.getElem?_eq_some_iff.1 hbk).1
  have hS : Calls Yba.prog 9 #[.slice (some ⟨g, 0, none⟩) zs.length cap'] w1 fun e w2 => e = .returned (.tuple #[]) ∧ ∃ (ys : List Nat), ys.Perm zs ∧ ys.Pairwise (fun x y => ltF y x = false) ∧
      (∀ j, j < zs.length → w2.cell? ⟨g, 0 + j, none⟩ = some (.float .f64 ys.toArray[j]!)) ∧ RowKit.Below w.heap.size w w2 := by
    refine (slices_Sort g 0 cap' zs w1 hH hg (by omega)).mono ?_
    rintro e w2 ⟨rfl, ys, n, os, hp, hs, rfl⟩
    have hl := hp.length_eq
    refine ⟨rfl, ys, hp, hs, fun j hj => ?_, hbl.grown (grownBy_sortedF ys.toArray) hbl.size (fun k e => by cases e; exact hbase)⟩
    rw [cell?_grow _ _ _ (by simpa using hg)]
    exact cell?_putRow _ _ g 0 zs.toArray ys.toArray (holds_ahead _ _ _ _ _ _ hH) (by simp [hl]) j (by simp [hl]; omega)
  clear hA hnil hrow c1 c2 c3 c4 hH
  go_wp2_with (go_at_call 9; refine hS.mono ?_; rintro e w2 ⟨rfl, ys, hp, hs, hcells, hbl2⟩)
  go_ret
  exact ⟨ys, g, cap', rfl, hp, hs, hcells, hbl2⟩

theorem Median_any (b off cap : Nat) (zs : List Nat) (h0 : 0 < zs.length) (hlen : zs.length ≤ 4096) (w : World) (hb : b < w.heap.size)
    (hI : ∀ j, j < zs.length → w.cell? ⟨b, off + j, none⟩ = some (.float .f64 (zs[j]?.getD 0))) :
    Calls Yba.prog 4 #[.slice (some ⟨b, off, none⟩) zs.length cap] w fun e W' => ∃ ys : List Nat, e = .returned (.float .f64 ys.toArray[(zs.length - 1) / 2]!) ∧ ys.Perm zs ∧ ys.Pairwise (fun x y => ltF y x = false) ∧ RowKit.Below w.heap.size w W' := by
  have hV := callsIn_wide.1 (values_in Fence.wide 3 trivial rfl (some ⟨b, off, none⟩) zs.length cap w)
  have hB0 : RowKit.Below w.heap.size w (w.alloc (.cells #[.slice (some ⟨b, off, none⟩) zs.length cap] 22)) := (Below.refl _ w).alloc (Nat.le_refl _) _
  have bN := Boxed.new w 22 (.slice (some ⟨b, off, none⟩) zs.length cap)
  have hS := sorted_any w.heap.size b off cap zs h0 hlen (w.alloc (.cells #[.slice (some ⟨b, off, none⟩) zs.length cap] 22)) (by simp) (by simp; omega) bN.cell (fun j hj => (hB0.cell (p := ⟨b, off + j, none⟩) hb).trans (hI j hj))
  clear hI bN
  go_enter Yba.func4, Yba.ntmps4
  go_wp2_with (first
    | (go_at_call 7; refine hV.mono ?_; rintro e w1 ⟨rfl, rfl⟩)
    | (go_at_call 6; refine hS.mono ?_; rintro e w2 ⟨ys, g, cap', rfl, hp, hs, hc, hbl⟩; have hk := hc ((zs.length - 1) / 2) (by omega); rw [Nat.zero_add] at hk; generalize hM : ys.toArray[(zs.length - 1) / 2]! = M at hk; have HM : Hid (ys.toArray[(zs.length - 1) / 2]! = M) := hM; clear hM hc))
  go_ret
  exact ⟨ys, by rw [HM.out]; rfl, hp, hs, hB0.trans (hbl.mono (by simp))⟩

end Go.Proofs.Ybulkexpfs

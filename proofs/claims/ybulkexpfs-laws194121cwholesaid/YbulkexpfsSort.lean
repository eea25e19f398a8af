/- slices.Sort at []float64 over this program: a permutation in the order of cmp.Less. -/
import Derived.Test.YbulkexpfsSA
import Derived.Test.YbulkexpfsSC4
import Derived.Test.YbulkexpfsS7
import Derived.Test.YbulkexpfsS11
import Derived.Test.YbulkexpfsS13
import Derived.Test.YbulkexpfsS14
namespace Go.Proofs.Ybulkexpfs
open Go.RowKit Go.Sort

theorem callees13s : Callees13s where
  ins := insertionSort_str
  brk := breakPatterns_str
  piv := choosePivot_str
  par := partialInsertionSort_str
  peq := partitionEqualOrdered_int
  prt := partitionOrdered_int

theorem plain13s : Plain13s where
  swo := swo_ltF
  ins := insertionSort_holds
  par := partialInsertionSort_holds
  prt := partition_holds _
  peq := partitionEqual_holds _
  pdq := pdq_sorts _

theorem pdqWalkF : pdqWalk_str := fun blk off cap a b limit d w hH hb hab hbd hsz hl hB =>
  pdqsort_string callees13s plain13s (b - a + 1) blk off cap a b limit d w (by omega) hH hb hab hbd hsz hl hB

theorem sorted_list (d : Array Nat) : (Sort.sort ltF d).toList.Perm d.toList ∧ (Sort.sort ltF d).toList.Pairwise (fun x y => ltF y x = false) := by
  obtain ⟨⟨h1, _, h3⟩, h4⟩ := sort_sorts ltF swo_ltF d
  constructor
  · have e1 : (Sort.sort ltF d).extract 0 d.size = Sort.sort ltF d := by rw [← h1]; simp
    have e2 : d.extract 0 d.size = d := by simp
    rw [e1, e2] at h3
    exact h3
  · rw [List.pairwise_iff_getElem]
    intro i j hi hj hij
    have hi' : i < (Sort.sort ltF d).size := by simpa using hi
    have hj' : j < (Sort.sort ltF d).size := by simpa using hj
    have := h4 i j (Nat.zero_le _) hij (by omega)
    rw [getElem!_pos _ i hi', getElem!_pos _ j hj'] at this
    simpa using this

/-- slices.Sort at []float64. -/
theorem slices_Sort (blk off cap : Nat) (zs : List Nat) (w : World) (hH : Holds encF w blk off zs.toArray) (hblk : blk < w.heap.size) (hsz : zs.length < 4611686018427387904) :
    Calls Yba.prog 9 #[.slice (some ⟨blk, off, none⟩) zs.length cap] w fun e w' =>
      e = .returned (.tuple #[]) ∧ ∃ (ys : List Nat) (n : Nat) (os : Array Obj), ys.Perm zs ∧ ys.Pairwise (fun x y => ltF y x = false) ∧ w' = grow (putRow encF (Sort.ahead w n) blk off ys.toArray) os := by
  have h := Sort_str pdqWalkF blk off cap zs.toArray w hH hblk (by simpa using hsz)
  simp only [List.size_toArray] at h
  refine h.mono ?_
  rintro e w' ⟨rfl, n, os, rfl⟩
  obtain ⟨h1, h2⟩ := sorted_list zs.toArray
  exact ⟨rfl, (Sort.sort ltF zs.toArray).toList, n, os, by simpa using h1, h2, by simp⟩

end Go.Proofs.Ybulkexpfs

import Derived.Test.Qxb6630693aShelf
import Derived.Test.Qxb6630693aGraph
import Derived.Sort.OwnSortedInts
/- sort.Ints at two numbers, out of the shelf's contract. -/
namespace Go.Proofs.Qxb6630693a
open Go.RowKit Go.Sort

theorem sort_two (a b : Int) : ([a, b].mergeSort fun x y => decide (x ≤ y)) = [if a ≤ b then a else b, if a ≤ b then b else a] := by
  by_cases h : a ≤ b <;> simp [List.mergeSort, List.MergeSort.Internal.splitInTwo, h]

theorem sortPair : SortPair := by
  intro g cap cur a b w hb htake
  have hlt : g < w.heap.size := (Array.getElem?_eq_some_iff.1 hb).1
  have h2 : 2 ≤ cur.size := by
    have : (cur.toList.take 2).length = 2 := by rw [htake]; rfl
    simp at this
    omega
  have hH : Holds (Value.int .i64) w g 0 [a, b].toArray := holds_of_blockI (ss := [a, b]) hb (by simpa using htake)
  have hc := Try.sort_Ints g 0 cap [a, b] w hH hlt (by simp)
  refine hc.mono ?_
  rintro e w' ⟨rfl, n, os, rfl⟩
  rw [sort_two]
  refine ⟨rfl, grownBy_sortedI _, _, heap_sortedI _ hb, by simp [putCells], ?_⟩
  have := take_putCellsI cur [if a ≤ b then a else b, if a ≤ b then b else a] (by simpa using h2)
  simpa using this

end Go.Proofs.Qxb6630693a

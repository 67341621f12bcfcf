import Derived.Test.Qxb6630740aMid
import Derived.Deep.WholeRow
/- make and copy of a row of numbers. -/
namespace Go.Proofs.Qxb6630740a
open Go.RowKit

/-- The world with a copy of the numbers z in a new block. -/
def copied (w : World) (z : List Int) : World := w.alloc (.cells (z.map (Value.int .u64)).toArray 23)

theorem copied_size (w : World) (z : List Int) : (copied w z).heap.size = w.heap.size + 1 := by simp [copied]

theorem copied_below (w w0 : World) (z : List Int) (h : Below w0.heap.size w0 w) : Below w0.heap.size w0 (copied w z) := h.alloc h.size _

theorem copied_row (w : World) (z : List Int) : RowIn (copied w z) (copied w z).heap.size (some ⟨w.heap.size, 0, none⟩) z := fun _ => by
  refine ⟨w.heap.size, 0, rfl, by rw [copied_size]; omega, fun i hi => ?_⟩
  rw [Nat.zero_add]
  unfold copied
  have h := World.news_of_block (cs := (z.map (Value.int .u64)).toArray) (t := 23) (fr := (0, 0)) (heap_alloc_new w _) i (.int .u64 (z.getD i 0)) (by simp [List.getD, hi])
  rw [Addr.add_lit, Nat.zero_add] at h
  exact h

theorem copied_kept {w : World} {a : Option Addr} {z z' : List Int} (r : RowIn w w.heap.size a z) : RowIn (copied w z') (copied w z').heap.size a z :=
  (r.kept ((Below.refl _ w).alloc (Nat.le_refl _) _)).mono (by rw [copied_size]; omega)

theorem copy_run (w : World) (a : Option Addr) (k c : Nat) (z : List Int) (hl : z.length = k) (r : RowIn w w.heap.size a z) (ty : TypeId) :
    (Builtin.copy_ #[22, 22] ty #[.slice (some ⟨w.heap.size, 0, none⟩) k k, .slice a k c]).run Try.prog (w.alloc (.cells (madeCells #[.int .u64 0] k) 23)) = .ok (.int .i64 (k : Int)) (copied w z) := by
  have hs : (Try.prog.info? 23).map (·.size) = some 1 := by kernel_rfl
  by_cases h0 : k = 0
  · subst h0
    obtain rfl := List.eq_nil_of_length_eq_zero hl
    rw [run_copy_zero (P := Try.prog) _ 22 22 ty 23 1 _ a 0 0 0 c Try.underlying22 hs rfl]
    simp [goInt, copied, madeCells, show Array.range 0 = #[] from rfl]
  · obtain ⟨b, off, rfl, hb, hc⟩ := r.at (k := 0) (by omega)
    rw [run_copy_wide (P := Try.prog) (w.alloc (.cells (madeCells #[.int .u64 0] k) 23)) 22 22 ty 23 1 w.heap.size 0 k k ⟨b, off, none⟩ k c (madeCells #[.int .u64 0] k) 23 (z.map (Value.int .u64)) k Try.underlying22 hs
      (heap_alloc_new w _) (Nat.min_self k).symm (by simp [hl]) (fun j v hv => by
        have hj := (List.getElem?_eq_some_iff.1 hv).1
        rw [List.length_map] at hj
        rw [Addr.add_lit, World.cell?_alloc_lt _ _ _ hb, hc j hj, ← hv]
        simp [List.getD, hj]) (by simp [hl, madeCells]) (by intro v hv; obtain ⟨x, _, rfl⟩ := List.mem_map.1 hv; rfl)]
    have hd : (madeCells #[.int .u64 0] k).toList.drop (0 + (z.map (Value.int .u64)).length) = [] := List.drop_eq_nil_of_le (by simp [hl, madeCells])
    rw [World.setRow_alloc_new, hd]
    simp [copied, goInt]

end Go.Proofs.Qxb6630740a

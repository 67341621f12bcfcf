import Derived.Test.Qxb6630809aRows
import Derived.WalkKit
import Derived.WalkSmall
import Derived.ProofKit
import Derived.OwnWalk
import Derived.Deep.AppendLies
import Derived.Deep.OwnRows
import Derived.Deep.QuietTactic
import Derived.Deep.RegionHeld3
/- Rows that came in, members, zzMemberAt. -/
namespace Go.Proofs.Qxb6630809a
open Go.RowKit

/-- The slice at a holds V 0, .., V (n - 1), in a block below B. -/
def RowAt (w : World) (B : Nat) (a : Option Addr) (n : Nat) (V : Nat → Value) : Prop :=
  0 < n → ∃ b off, a = some ⟨b, off, none⟩ ∧ b < B ∧ ∀ i, i < n → w.cell? ⟨b, off + i, none⟩ = some (V i)

theorem RowAt.kept {w w' : World} {B : Nat} {a : Option Addr} {n : Nat} {V : Nat → Value} (h : RowAt w B a n V) (hb : Below B w w') : RowAt w' B a n V := fun hne => by
  obtain ⟨b, off, e, hlt, hc⟩ := h hne
  exact ⟨b, off, e, hlt, fun i hi => (hb.cell (by exact hlt)).trans (hc i hi)⟩

theorem RowAt.mono {w : World} {B B' : Nat} {a : Option Addr} {n : Nat} {V : Nat → Value} (h : RowAt w B a n V) (hB : B ≤ B') : RowAt w B' a n V := fun hne => by
  obtain ⟨b, off, e, hlt, hc⟩ := h hne
  exact ⟨b, off, e, by omega, hc⟩

/-- A member: id, address, does it vote. -/
abbrev Mb := Int × ByteArray × Bool

/-- Its value. -/
def mbV (m : Mb) : Value := .agg #[.int .u16 m.1, .string m.2.1, .bool m.2.2]

theorem new_cell {w : World} {cs : Array Value} {t : TypeId} {j : Nat} {v : Value} (h : cs[j]? = some v) : (w.alloc (.cells cs t)).cell? ⟨w.heap.size, j, none⟩ = some v := by
  unfold World.cell?
  rw [heap_alloc_new]
  exact h

theorem new_free {w : World} {cs : Array Value} {t : TypeId} {j : Nat} : (w.alloc (.cells cs t)).frozen? ⟨w.heap.size, j, none⟩ = false := by
  unfold World.frozen?
  rw [heap_alloc_new]
  simp

/-- The three cells that the region reads. -/
def Three (b1 o1 b2 o2 b3 o3 i : Nat) (m : Mb) (w : World) : Prop :=
  w.cell? ⟨b1, o1 + i, none⟩ = some (.int .u16 m.1) ∧ w.cell? ⟨b2, o2 + i, none⟩ = some (.string m.2.1) ∧ w.cell? ⟨b3, o3 + i, none⟩ = some (.bool m.2.2)

set_option maxRecDepth 100000 in
set_option maxHeartbeats 1600000 in
theorem memberAt_calls (a1 a2 a3 : Option Addr) (n c1 c2 c3 i : Nat) (I : Nat → Int) (S : Nat → ByteArray) (V : Nat → Bool) (w : World) (hi : i < n) (hn : n ≤ 65536)
    (r1 : RowAt w w.heap.size a1 n (fun i => .int .u16 (I i))) (r2 : RowAt w w.heap.size a2 n (fun i => .string (S i))) (r3 : RowAt w w.heap.size a3 n (fun i => .bool (V i))) :
    Calls Try.prog 10 #[.slice a1 n c1, .slice a2 n c2, .slice a3 n c3, .int .i64 i] w fun e w' => e = .returned (mbV (I i, S i, V i)) ∧ Below w.heap.size w w' := by
  obtain ⟨b1, o1, rfl, hb1, e1⟩ := r1 (by omega)
  obtain ⟨b2, o2, rfl, hb2, e2⟩ := r2 (by omega)
  obtain ⟨b3, o3, rfl, hb3, e3⟩ := r3 (by omega)
  have d1 : w.cell? ⟨b1, o1 + i, none⟩ = some (.int .u16 (I i)) := e1 i hi
  have d2 : w.cell? ⟨b2, o2 + i, none⟩ = some (.string (S i)) := e2 i hi
  have d3 : w.cell? ⟨b3, o3 + i, none⟩ = some (.bool (V i)) := e3 i hi
  clear e1 e2 e3 r1 r2 r3
  have hi1 : (i : Int) < n := by omega
  generalize I i = x at *
  generalize S i = s at *
  generalize V i = v at *
  have HW : Hid (Below w.heap.size w (w.alloc (.cells #[.int .u16 0, .string { data := #[] }, .bool false] 35))) := (Below.refl _ _).alloc (Nat.le_refl _) _
  have d1' : (w.alloc (.cells #[.int .u16 0, .string { data := #[] }, .bool false] 35)).cell? ⟨b1, o1 + i, none⟩ = some (.int .u16 x) := by rw [World.cell?_alloc_lt _ _ _ hb1]; exact d1
  have d2' : (w.alloc (.cells #[.int .u16 0, .string { data := #[] }, .bool false] 35)).cell? ⟨b2, o2 + i, none⟩ = some (.string s) := by rw [World.cell?_alloc_lt _ _ _ hb2]; exact d2
  have d3' : (w.alloc (.cells #[.int .u16 0, .string { data := #[] }, .bool false] 35)).cell? ⟨b3, o3 + i, none⟩ = some (.bool v) := by rw [World.cell?_alloc_lt _ _ _ hb3]; exact d3
  have HN : Hid ((w.alloc (.cells #[.int .u16 0, .string { data := #[] }, .bool false] 35)).heap[w.heap.size]? = some (.cells #[.int .u16 0, .string { data := #[] }, .bool false] 35 (0, 0))) := heap_alloc_new w _
  have m0 : (w.alloc (.cells #[.int .u16 0, .string { data := #[] }, .bool false] 35)).cell? ⟨w.heap.size, 0, none⟩ = some (.int .u16 0) := new_cell rfl
  have m1 : (w.alloc (.cells #[.int .u16 0, .string { data := #[] }, .bool false] 35)).cell? ⟨w.heap.size, 1, none⟩ = some (.string { data := #[] }) := new_cell rfl
  have m2 : (w.alloc (.cells #[.int .u16 0, .string { data := #[] }, .bool false] 35)).cell? ⟨w.heap.size, 2, none⟩ = some (.bool false) := new_cell rfl
  have f0 : (w.alloc (.cells #[.int .u16 0, .string { data := #[] }, .bool false] 35)).frozen? ⟨w.heap.size, 0, none⟩ = false := new_free
  have f1 : (w.alloc (.cells #[.int .u16 0, .string { data := #[] }, .bool false] 35)).frozen? ⟨w.heap.size, 1, none⟩ = false := new_free
  have f2 : (w.alloc (.cells #[.int .u16 0, .string { data := #[] }, .bool false] 35)).frozen? ⟨w.heap.size, 2, none⟩ = false := new_free
  have n1 : w.heap.size ≠ b1 := by omega
  have n2 : w.heap.size ≠ b2 := by omega
  have n3 : w.heap.size ≠ b3 := by omega
  clear d1 d2 d3
  go_enter Try.func10, Try.ntmps10
  go_wp2_with fail
  generalize (w.alloc (.cells #[.int .u16 0, .string { data := #[] }, .bool false] 35)) = W at *
  go_region_held3 (fun w' => w'.cell? ⟨b1, o1 + i, none⟩ = some (.int .u16 x) ∧ w'.cell? ⟨b2, o2 + i, none⟩ = some (.string s) ∧ w'.cell? ⟨b3, o3 + i, none⟩ = some (.bool v)) (go_keep) (fail)
  go_wp2_with fail
  have hg := heap_setCell_same _ w.heap.size 2 _ 35 (.bool v) (heap_setCell_same _ w.heap.size 1 _ 35 (.string s) (heap_setCell_same W w.heap.size 0 _ 35 (.int .u16 x) HN.out))
  refine bodyPost_ret (results_cell_row (P := Try.prog) Try.results10 _ _ w.heap.size 35 #[.int .u16 x, .string s, .bool v] (0, 0) _ rfl hg Try.underlying35 rfl (by kernel_rfl)) rfl ?_
  exact ⟨rfl, (((HW.out.setCell (p := ⟨w.heap.size, 0, none⟩) (Nat.le_refl _) _).setCell (p := ⟨w.heap.size, 1, none⟩) (Nat.le_refl _) _).setCell (p := ⟨w.heap.size, 2, none⟩) (Nat.le_refl _) _).drew⟩
end Go.Proofs.Qxb6630809a

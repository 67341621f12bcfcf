import Derived.Test.Qxb6630693aSort
import Derived.Test.Qxb6630693aNumbered
/- topology.Ring: the walk. -/
namespace Go.Proofs.Qxb6630693a
open Go.RowKit

theorem info39 : (Try.prog.info? 39).map (fun i => (i.zero, i.size, i.bytes)) = some (some (.agg #[.int .i64 0, .int .i64 0]), 2, 16) := by kernel_rfl

/-- The links' cells behind k rounds. -/
def linkCell (n k i : Nat) : Value := if i / 2 < k then (if i % 2 = 0 then .int .i64 (i / 2 : Nat) else .int .i64 ((i / 2 + 1) % n : Nat)) else .int .i64 0

theorem linkCell_step {w : World} {b n k : Nat} (h : w.rowIs b 39 (n * 2) (linkCell n k)) :
    ((w.setCell ⟨b, k * 2, none⟩ (.int .i64 k)).setCell ⟨b, k * 2 + 1, none⟩ (.int .i64 ((k + 1) % n : Nat))).rowIs b 39 (n * 2) (linkCell n (k + 1)) :=
  ((h.set (k * 2) _).set (k * 2 + 1) _).congr fun i _ => by
    unfold linkCell
    by_cases e1 : i = k * 2 + 1
    · subst e1
      rw [if_pos rfl, if_pos (by omega), if_neg (by omega), show (k * 2 + 1) / 2 = k from by omega]
    · rw [if_neg e1]
      by_cases e2 : i = k * 2
      · subst e2
        rw [if_pos rfl, if_pos (by omega), if_pos (by omega), show (k * 2) / 2 = k from by omega]
      · rw [if_neg e2]
        by_cases h2 : i / 2 < k
        · rw [if_pos h2, if_pos (show i / 2 < k + 1 from by omega)]
        · rw [if_neg h2, if_neg (by omega)]

theorem linkCell_start (w : World) (n : Nat) : (w.alloc (.cells (madeCells #[.int .i64 0, .int .i64 0] (n * 2)) 39)).rowIs w.heap.size 39 (n * 2) (linkCell n 0) := by
  have h := World.rowIs_alloc w (madeCells #[.int .i64 0, .int .i64 0] (n * 2)) 39 (linkCell n 0) (fun i hi => by
    have hi' : i < n * 2 := by simpa [madeCells] using hi
    rcases Nat.mod_two_eq_zero_or_one i with h | h <;> simp [madeCells, linkCell, hi', h])
  simpa [madeCells] using h

/-- What Ring hands back: the graph at block gb. -/
def RingAt (w : World) (n gb : Nat) : Prop := ∃ ib pb V, w.heap[gb]? = some (graphObj ib pb n) ∧ w.rowIs ib 32 n (idsAt n) ∧ w.rowIs pb 33 n V ∧
  ∀ j, j < n → ∃ g cap, V j = .slice (some ⟨g, 0, none⟩) 2 cap ∧ w.cell? ⟨g, 0, none⟩ = some (.int .i64 (lo n j)) ∧ w.cell? ⟨g, 1, none⟩ = some (.int .i64 (hi n j))

theorem RingAt.kept {w w' : World} {n gb : Nat} (h : RingAt w n gb) (hb : Below w.heap.size w w') : RingAt w' n gb := by
  obtain ⟨ib, pb, V, h1, h2, h3, h4⟩ := h
  refine ⟨ib, pb, V, (hb.block _ (Array.getElem?_eq_some_iff.1 h1).1).trans h1, h2.of_block (hb.block _ h2.lt), h3.of_block (hb.block _ h3.lt), fun j hj => ?_⟩
  obtain ⟨g, cap, hv, c0, c1⟩ := h4 j hj
  exact ⟨g, cap, hv, (hb.cell (World.block_lt_of_cell? w _ c0)).trans c0, (hb.cell (World.block_lt_of_cell? w _ c1)).trans c1⟩

theorem RingAt.of_St {w W : World} {ib n : Nat} {V : Nat → Value} (h : St w ib n W (half n n) V) (hi : W.rowIs ib 32 n (idsAt n)) : RingAt W n (w.heap.size + 1) := by
  refine ⟨ib, w.heap.size, V, h.graph, hi, h.peers.row, fun j hj => ?_⟩
  have hown := h.peers.own j hj
  rw [show half n n j = [lo n j, Qxb6630693a.hi n j] from by unfold half; rw [if_pos hj]] at hown
  obtain ⟨g, cap, hv, _, _⟩ := hown.form (by simp)
  rw [hv] at hown
  refine ⟨g, cap, by simpa using hv, ?_, ?_⟩
  · rw [hown.cellAt 0 (by simp)]; rfl
  · rw [hown.cellAt 1 (by simp)]; rfl

set_option maxRecDepth 100000 in
set_option maxHeartbeats 400000 in
theorem ring_calls (n : Nat) (hn3 : 3 ≤ n) (hn : n ≤ 65536) (w : World) :
    Calls Try.prog 5 #[.int .i64 n] w fun e w' => ∃ gb, e = .returned (.tuple #[.pointer (some ⟨gb, 0, none⟩), .nilIface]) ∧ RingAt w' n gb ∧ Below w.heap.size w w' := by
  obtain ⟨i0, hi0, hz0, hz1, hz2⟩ := info_parts info39
  have hmk : ∀ w : World, (Instr.makeSlice 38 (.int .i64 (n : Int)) (.int .i64 (n : Int))).run Try.prog w = .ok (.slice (some ⟨w.heap.size, 0, none⟩) n n) (w.alloc (.cells (madeCells #[.int .i64 0, .int .i64 0] (n * 2)) 39)) := fun w => by
    have hr := run_make (P := Try.prog) w 38 39 i0 _ Try.underlying38 hi0 hz0 .i64 .i64 n n (by omega) (Int.le_refl _) (by rw [hz2]; omega) (by omega)
    simp only [Int.toNat_natCast, hz1] at hr
    exact hr
  have hn1 : (n : Int) ≤ 65536 := by omega
  have hn2 : (3 : Int) ≤ n := by omega
  go_enter Try.func5, Try.ntmps5
  go_wp2_with fail
  go_loopw [13] (fun i wr => ∃ k : Nat, k ≤ n ∧ i = .int .i64 k ∧ wr.rowIs w.heap.size 39 (n * 2) (linkCell n k) ∧ wr.heap.size = w.heap.size + 1 ∧ Below w.heap.size w wr) (fun i _ => n - (intOf i).toNat)
  case atStart => exact ⟨0, Nat.zero_le _, rfl, linkCell_start w n, by simp, (Below.refl _ _).alloc (Nat.le_refl _) _⟩
  case round =>
    obtain ⟨k, hk, rfl, hrow, hsz, hb⟩ := hrel
    by_cases hlt : k < n
    · have c0 := hrow.cell (i := k * 2) (by omega)
      have c1 := hrow.cell (i := k * 2 + 1) (by omega)
      have f0 := hrow.frozen (k * 2)
      have f1 := hrow.frozen (k * 2 + 1)
      go_wp2_with fail
      go_roundw
      case rel =>
        have h := linkCell_step hrow
        refine ⟨k + 1, by omega, by go_num, ?_, by simpa using hsz, (hb.setCell (Nat.le_refl _) _).setCell (Nat.le_refl _) _⟩
        rw [show ((k : Int) + 1) % (n : Int) = (((k + 1) % n : Nat) : Int) from by rw [Int.natCast_emod]; rfl]
        exact h
      case measure => simp [intOf]; omega
    · have hkn : k = n := by omega
      subst hkn
      go_wp2_with fail
      refine (numbered_calls k hn wr).mono ?_
      rintro e w1 ⟨rfl, hids, hs1, hb1⟩
      rw [hsz] at hids
      go_wp2_with fail
      refine (newGraph_calls sortPair k (w.heap.size + 1) w.heap.size hn3 hn w1 ?_).mono ?_
      · intro i hi
        have hl : w.heap.size < wr.heap.size := by omega
        refine ⟨(hb1.cell (by exact hl)).trans ((hrow.cell (by omega)).trans ?_), (hb1.cell (by exact hl)).trans ((hrow.cell (by omega)).trans ?_)⟩
        · unfold linkCell
          rw [if_pos (by omega), if_pos (by omega), show (i * 2) / 2 = i from by omega]
        · unfold linkCell
          rw [if_pos (by omega), if_neg (by omega), show (i * 2 + 1) / 2 = i from by omega]
      · rintro e w2 ⟨rfl, V, hst⟩
        have hring := RingAt.of_St hst (hids.of_block (hst.below.block _ hids.lt))
        have hbb : Below w.heap.size w w2 := hb.trans ((hb1.mono (by omega)).trans (hst.below.mono (by omega)))
        have HR : Hid (RingAt w2 k (w1.heap.size + 1) ∧ Below w.heap.size w w2) := ⟨hring, hbb⟩
        clear hring hbb hst hs1 hsz
        go_wp2_with fail
        go_ret2
        exact ⟨_, rfl, HR.out.1, HR.out.2⟩

set_option maxHeartbeats 400000 in
theorem ring_small (n : Int) (hn : n < 3) (w : World) :
    Calls Try.prog 5 #[.int .i64 n] w fun e w' => e = .returned (.tuple #[.pointer none, .iface 42 (.pointer (some ⟨w.heap.size, 0, none⟩))]) ∧ Below w.heap.size w w' := by
  go_enter Try.func5, Try.ntmps5
  go_wp2
  go_ret2
  exact ⟨rfl, (Below.refl _ _).alloc (Nat.le_refl _) _⟩

end Go.Proofs.Qxb6630693a

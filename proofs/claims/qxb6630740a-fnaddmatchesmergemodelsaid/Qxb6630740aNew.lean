import Derived.Test.Qxb6630740aShims
/- ZZnewSet: the walk. -/
namespace Go.Proofs.Qxb6630740a
open Go.RowKit

/-- The intervals' cells behind j rounds. -/
def ivAt (z1 z2 : List Int) (j i : Nat) : Value := if i / 2 < j then (if i % 2 = 0 then .int .u64 (z1.getD (i / 2) 0) else .int .u64 (z2.getD (i / 2) 0)) else .int .u64 0

theorem ivAt_step {w : World} {b n j : Nat} {z1 z2 : List Int} (h : w.rowIs b 38 (n * 2) (ivAt z1 z2 j)) :
    ((w.setCell ⟨b, j * 2, none⟩ (.int .u64 (z1.getD j 0))).setCell ⟨b, j * 2 + 1, none⟩ (.int .u64 (z2.getD j 0))).rowIs b 38 (n * 2) (ivAt z1 z2 (j + 1)) :=
  ((h.set (j * 2) _).set (j * 2 + 1) _).congr fun i _ => by
    unfold ivAt
    by_cases e1 : i = j * 2 + 1
    · subst e1
      rw [if_pos rfl, if_pos (by omega), if_neg (by omega), show (j * 2 + 1) / 2 = j from by omega]
    · rw [if_neg e1]
      by_cases e2 : i = j * 2
      · subst e2
        rw [if_pos rfl, if_pos (by omega), if_pos (by omega), show (j * 2) / 2 = j from by omega]
      · rw [if_neg e2]
        by_cases h2 : i / 2 < j
        · rw [if_pos h2, if_pos (show i / 2 < j + 1 from by omega)]
        · rw [if_neg h2, if_neg (by omega)]

theorem ivAt_start (w : World) (n : Nat) (z1 z2 : List Int) : (w.alloc (.cells (madeCells #[.int .u64 0, .int .u64 0] (n * 2)) 38)).rowIs w.heap.size 38 (n * 2) (ivAt z1 z2 0) := by
  have h := World.rowIs_alloc w (madeCells #[.int .u64 0, .int .u64 0] (n * 2)) 38 (ivAt z1 z2 0) (fun i hi => by
    have hi' : i < n * 2 := by simpa [madeCells] using hi
    rcases Nat.mod_two_eq_zero_or_one i with h | h <;> simp [madeCells, ivAt, hi', h])
  simpa [madeCells] using h

theorem zip_at (z1 z2 : List Int) (i : Nat) (h1 : i < z1.length) (h2 : i < z2.length) : (z1.zip z2).getD i (0, 0) = (z1.getD i 0, z2.getD i 0) := by
  have h : i < (z1.zip z2).length := by rw [List.length_zip]; omega
  rw [List.getD, List.getD, List.getD, List.getElem?_eq_getElem h, List.getElem?_eq_getElem h1, List.getElem?_eq_getElem h2, List.getElem_zip]
  rfl

theorem ivAt_zip (z1 z2 : List Int) (n i : Nat) (hi : i < n) (h1 : i < z1.length) (h2 : i < z2.length) :
    ivAt z1 z2 n (i * 2) = .int .u64 ((z1.zip z2).getD i (0, 0)).1 ∧ ivAt z1 z2 n (i * 2 + 1) = .int .u64 ((z1.zip z2).getD i (0, 0)).2 := by
  unfold ivAt
  rw [zip_at z1 z2 i h1 h2, if_pos (by omega), if_pos (by omega), if_pos (by omega), if_neg (by omega), show (i * 2) / 2 = i from by omega, show (i * 2 + 1) / 2 = i from by omega]
  exact ⟨rfl, rfl⟩

theorem own_of_row {w : World} {base g n : Nat} {f : Nat → Value} {ivs : List (Int × Int)} (h : w.rowIs g 38 (n * 2) f) (hn : ivs.length = n) (hb : base ≤ g) (hm : n ≤ maxLen)
    (hf : ∀ i, i < n → f (i * 2) = .int .u64 (ivs.getD i (0, 0)).1 ∧ f (i * 2 + 1) = .int .u64 (ivs.getD i (0, 0)).2) : w.ownsRow base 38 2 (.slice (some ⟨g, 0, none⟩) ivs.length n) ivs.length (flat ivs) := by
  obtain ⟨cur, hh, hs, hc⟩ := h
  refine ⟨flat_length ivs, .inr ⟨g, n, cur, rfl, hb, hh, by omega, hm, hs, ?_⟩⟩
  rw [List.take_of_length_le (by simp; omega)]
  apply List.ext_getElem?
  intro j
  by_cases hj : j < n * 2
  · rw [Array.getElem?_toList, hc j hj]
    rcases Nat.mod_two_eq_zero_or_one j with e | e
    · obtain ⟨i, rfl⟩ : ∃ i, j = i * 2 := ⟨j / 2, by omega⟩
      rw [flat_fst ivs i (by omega), (hf i (by omega)).1]
    · obtain ⟨i, rfl⟩ : ∃ i, j = i * 2 + 1 := ⟨j / 2, by omega⟩
      rw [flat_snd ivs i (by omega), (hf i (by omega)).2]
  · rw [List.getElem?_eq_none (by simp; omega), List.getElem?_eq_none (by rw [flat_length]; omega)]

set_option maxRecDepth 100000 in
set_option maxHeartbeats 800000 in
theorem newSet_calls (src : ByteArray) (a1 a2 : Option Addr) (k c1 c2 : Nat) (z1 z2 : List Int) (w : World) (l1 : z1.length = k) (l2 : z2.length = k) (r1 : RowIn w w.heap.size a1 z1) (r2 : RowIn w w.heap.size a2 z2) (hk : k ≤ 1048576) :
    Calls Try.prog 7 #[.string src, .slice a1 k c1, .slice a2 k c2] w fun e w' => e = .returned (.pointer (some ⟨w.heap.size + 1, 0, none⟩)) ∧ SetAt w' w.heap.size (w.heap.size + 1) src w.heap.size k (z1.zip z2) ∧ Below w.heap.size w w' := by
  obtain ⟨i0, hi0, hz0, hz1, hz2⟩ := info_parts info38
  have hmk : ∀ w : World, (Instr.makeSlice 36 (.int .i64 (k : Int)) (.int .i64 (k : Int))).run Try.prog w = .ok (.slice (some ⟨w.heap.size, 0, none⟩) k k) (w.alloc (.cells (madeCells #[.int .u64 0, .int .u64 0] (k * 2)) 38)) := fun w => by
    have hr := run_make (P := Try.prog) w 36 38 i0 _ Try.underlying36 hi0 hz0 .i64 .i64 k k (by omega) (Int.le_refl _) (by rw [hz2]; omega) (by omega)
    simp only [Int.toNat_natCast, hz1] at hr
    exact hr
  have hn1 : (k : Int) ≤ 1048576 := by omega
  have HR : Hid (z1.length = k ∧ z2.length = k) := ⟨l1, l2⟩
  clear l1 l2
  go_enter Try.func7, Try.ntmps7
  go_wp2
  go_loopw [9] (fun i wr => ∃ j : Nat, j ≤ k ∧ i = .int .i64 j ∧ wr.rowIs w.heap.size 38 (k * 2) (ivAt z1 z2 j) ∧ wr.heap.size = w.heap.size + 1 ∧ Below w.heap.size w wr) (fun i _ => k - (intOf i).toNat)
  case atStart => exact ⟨0, Nat.zero_le _, rfl, ivAt_start w k z1 z2, by simp, (Below.refl _ _).alloc (Nat.le_refl _) _⟩
  case round =>
    obtain ⟨j, hj, rfl, hrow, hsz, hb⟩ := hrel
    by_cases hlt : j < k
    · obtain ⟨b1, o1, rfl, hb1, e1⟩ := (r1.kept hb).at (k := j) (by rw [HR.out.1]; exact hlt)
      obtain ⟨b2, o2, rfl, hb2, e2⟩ := (r2.kept hb).at (k := j) (by rw [HR.out.2]; exact hlt)
      have d1 := e1 j (by rw [HR.out.1]; exact hlt)
      have d2 := e2 j (by rw [HR.out.2]; exact hlt)
      have d3 := hrow.cell (i := j * 2) (by omega)
      have d4 := hrow.cell (i := j * 2 + 1) (by omega)
      have d5 := hrow.frozen (j * 2)
      have d6 := hrow.frozen (j * 2 + 1)
      have hst := ivAt_step hrow
      have HST : Hid (((wr.setCell ⟨w.heap.size, j * 2, none⟩ (.int .u64 (z1.getD j 0))).setCell ⟨w.heap.size, j * 2 + 1, none⟩ (.int .u64 (z2.getD j 0))).rowIs w.heap.size 38 (k * 2) (ivAt z1 z2 (j + 1)) ∧ wr.heap.size = w.heap.size + 1) := ⟨hst, hsz⟩
      clear hst e1 e2 hsz
      generalize z1.getD j 0 = x1 at *
      generalize z2.getD j 0 = x2 at *
      have n1 : w.heap.size ≠ b1 := by omega
      have n2 : w.heap.size ≠ b2 := by omega
      have hj1 : (j : Int) < (k : Int) := by omega
      go_wp2_with fail
      go_region_held3 (fun w' => w'.cell? ⟨b1, o1 + j, none⟩ = some (.int .u64 x1) ∧ w'.cell? ⟨b2, o2 + j, none⟩ = some (.int .u64 x2)) (go_keep) (fail)
      go_wp2_with fail
      go_roundw
      case rel =>
        refine ⟨j + 1, by omega, by go_num, ?_, ?_, ?_⟩
        · exact HST.out.1
        · simpa using HST.out.2
        · exact ((hb.setCell (Nat.le_refl _) _).setCell (Nat.le_refl _) _).drew
      case measure => simp [intOf]; omega
    · have hjk : j = k := by omega
      subst hjk
      have hown := own_of_row (base := w.heap.size) (ivs := z1.zip z2) hrow (by rw [List.length_zip, HR.out.1, HR.out.2]; omega) (Nat.le_refl _) (by unfold maxLen; omega) (fun i hi => ivAt_zip z1 z2 j i hi (by rw [HR.out.1]; exact hi) (by rw [HR.out.2]; exact hi))
      have hlz : (z1.zip z2).length = j := by rw [List.length_zip, HR.out.1, HR.out.2]; omega
      have HF : Hid (wr.ownsRow w.heap.size 38 2 (.slice (some ⟨w.heap.size, 0, none⟩) (z1.zip z2).length j) (z1.zip z2).length (flat (z1.zip z2)) ∧ (z1.zip z2).length = j ∧ wr.heap.size = w.heap.size + 1 ∧ Below w.heap.size w wr) := ⟨hown, hlz, hsz, hb⟩
      clear hown hlz hb
      go_wp2_with fail
      go_ret
      obtain ⟨hown, hlz, hs2, hb⟩ := HF.out
      refine ⟨rfl, ⟨?_, hown.alloc _, by omega⟩, hb.alloc (by omega) _⟩
      rw [← hs2, hlz]
      exact heap_alloc_new _ _

end Go.Proofs.Qxb6630740a

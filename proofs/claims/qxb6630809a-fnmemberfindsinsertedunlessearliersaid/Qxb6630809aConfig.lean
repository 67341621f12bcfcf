import Derived.Test.Qxb6630809aBase
/- zzConfig: the walk. -/
namespace Go.Proofs.Qxb6630809a
open Go.RowKit

theorem info35 : (Try.prog.info? 35).map (fun i => (i.zero, i.size, i.bytes)) = some (some (.agg #[.int .u16 0, .string { data := #[] }, .bool false]), 3, 32) := by kernel_rfl

/-- The members' cells. -/
def flatM : List Mb → List Value
  | [] => []
  | m :: t => .int .u16 m.1 :: .string m.2.1 :: .bool m.2.2 :: flatM t

theorem flatM_append : ∀ a b : List Mb, flatM (a ++ b) = flatM a ++ flatM b
  | [], _ => rfl
  | _ :: t, b => by simp [flatM, flatM_append t b]

theorem flatM_length : ∀ l : List Mb, (flatM l).length = l.length * 3
  | [] => rfl
  | _ :: t => by simp [flatM, flatM_length t]; omega

theorem flatM_at : ∀ (l : List Mb) (j : Nat) (h : j < l.length), (flatM l)[j * 3]? = some (.int .u16 l[j].1) ∧ (flatM l)[j * 3 + 1]? = some (.string l[j].2.1) ∧ (flatM l)[j * 3 + 2]? = some (.bool l[j].2.2)
  | _ :: _, 0, _ => ⟨rfl, rfl, rfl⟩
  | _ :: t, j + 1, h => by
    have := flatM_at t j (by simpa using h)
    rw [show (j + 1) * 3 = j * 3 + 1 + 1 + 1 from by omega]
    simpa [flatM] using this

/-- The row at block b, of room cap, holds the n members A. -/
def OwnM (w : World) (base b cap n : Nat) (A : List Mb) : Prop := w.ownsRow base 35 3 (.slice (some ⟨b, 0, none⟩) n cap) n (flatM A)

section
variable {w w' : World} {base b cap n : Nat} {A : List Mb}
theorem OwnM.len (h : OwnM w base b cap n A) : A.length = n := by
  have := h.1
  rw [flatM_length] at this
  omega
theorem OwnM.lt (h : OwnM w base b cap n A) : base ≤ b ∧ b < w.heap.size := World.ownsRow.lt h b rfl
theorem OwnM.below {B : Nat} (h : OwnM w base b cap n A) (hb : Below B w w') (hB : b < B) : OwnM w' base b cap n A := by
  refine ⟨h.1, ?_⟩
  rcases h.2 with e | ⟨g, cap', cur, e, h1, hh, r⟩
  · exact .inl e
  · refine .inr ⟨g, cap', cur, e, h1, ?_, r⟩
    simp only [Value.slice.injEq, Option.some.injEq, Addr.mk.injEq, and_true, true_and] at e
    rw [hb.block g (by omega)]
    exact hh
theorem OwnM.other (h : OwnM w base b cap n A) {a : Addr} (ha : b ≠ a.block) (u : Value) : OwnM (w.setCell a u) base b cap n A := by
  refine ⟨h.1, ?_⟩
  rcases h.2 with e | ⟨g, cap', cur, e, hb, hh, r⟩
  · exact .inl e
  · refine .inr ⟨g, cap', cur, e, hb, ?_, r⟩
    simp only [Value.slice.injEq, Option.some.injEq, Addr.mk.injEq, and_true, true_and] at e
    rw [Below.heap_setCell _ _ _ _ (by rw [← e.1]; exact ha)]
    exact hh
theorem OwnM.snoc {m : Mb} (h : w.ownsRow base 35 3 (.slice (some ⟨b, 0, none⟩) (n + 1) cap) (n + 1) (flatM A ++ [.int .u16 m.1, .string m.2.1, .bool m.2.2])) : OwnM w base b cap (n + 1) (A ++ [m]) := by
  unfold OwnM
  rw [flatM_append]
  exact h
theorem OwnM.cells (h : OwnM w base b cap n A) {j : Nat} (hj : j < A.length) :
    w.cell? ⟨b, j * 3, none⟩ = some (.int .u16 A[j].1) ∧ w.cell? ⟨b, j * 3 + 1, none⟩ = some (.string A[j].2.1) ∧ w.cell? ⟨b, j * 3 + 2, none⟩ = some (.bool A[j].2.2) := by
  have hl := h.len
  have hf := flatM_at A j hj
  exact ⟨(World.ownsRow.cellAt h _ (by omega)).trans hf.1, (World.ownsRow.cellAt h _ (by omega)).trans hf.2.1, (World.ownsRow.cellAt h _ (by omega)).trans hf.2.2⟩
end

theorem three_new (w : World) (m : Mb) : ∀ j u, [Value.int .u16 m.1, .string m.2.1, .bool m.2.2][j]? = some u → (w.alloc (.cells #[.int .u16 m.1, .string m.2.1, .bool m.2.2] 35)).cell? ((⟨w.heap.size, 0, none⟩ : Addr).add j) = some u :=
  World.news_of_block (cs := #[.int .u16 m.1, .string m.2.1, .bool m.2.2]) (t := 35) (fr := (0, 0)) (heap_alloc_new w _)

theorem three_ok (m : Mb) : ∀ u ∈ [Value.int .u16 m.1, .string m.2.1, .bool m.2.2], u.oneCell' = true := by simp [Value.oneCell']

theorem below_app {w w0 w1 : World} {o : Obj} {g m : Nat} (hb : Below w0.heap.size w0 w) (hs : w0.heap.size + m ≤ w.heap.size) (hg : (w.alloc o).grownBy w1 (some g)) (hgb : w0.heap.size ≤ g) :
    Below w0.heap.size w0 w1 ∧ w0.heap.size + m ≤ w1.heap.size := by
  refine ⟨(hb.alloc (by omega) o).grown hg (by simp; omega) (fun k hk => by obtain rfl := Option.some.inj hk; exact hgb), ?_⟩
  have := hg.size
  simp at this
  omega

/-- The members lo .. i-1. -/
def seg (M : Nat → Mb) (lo i : Nat) : List Mb := (List.range (i - lo)).map fun j => M (lo + j)

theorem seg_start (M : Nat → Mb) (lo : Nat) : seg M lo lo = [] := by simp [seg]
theorem seg_succ (M : Nat → Mb) {lo i : Nat} (h : lo ≤ i) : seg M lo (i + 1) = seg M lo i ++ [M i] := by
  unfold seg
  rw [show i + 1 - lo = (i - lo) + 1 from by omega, List.range_succ, List.map_append, List.map_cons, List.map_nil, show lo + (i - lo) = i from by omega]

set_option maxRecDepth 100000 in
set_option maxHeartbeats 1600000 in
theorem config_calls (x : Int) (a1 a2 a3 : Option Addr) (n c1 c2 c3 lo hi : Nat) (I : Nat → Int) (S : Nat → ByteArray) (V : Nat → Bool) (w : World) (hlo : lo ≤ hi) (hhi : hi ≤ n) (hn : n ≤ 65536)
    (r1 : RowAt w w.heap.size a1 n (fun i => .int .u16 (I i))) (r2 : RowAt w w.heap.size a2 n (fun i => .string (S i))) (r3 : RowAt w w.heap.size a3 n (fun i => .bool (V i))) :
    Calls Try.prog 7 #[.int .u64 x, .slice a1 n c1, .slice a2 n c2, .slice a3 n c3, .int .i64 lo, .int .i64 hi] w fun e w' =>
      (∃ b, e = .returned (.agg #[.int .u64 x, .slice (some ⟨b, 0, none⟩) (hi - lo) (hi - lo)]) ∧ OwnM w' w.heap.size b (hi - lo) (hi - lo) (seg (fun i => (I i, S i, V i)) lo hi)) ∧ Below w.heap.size w w' := by
  obtain ⟨i0, hi0, hz0, hz1, hz2⟩ := info_parts info35
  obtain ⟨k, hk⟩ : ∃ k, hi - lo = k := ⟨_, rfl⟩
  rw [hk]
  have HK : Hid (hi = lo + k) := (show hi = lo + k by omega)
  have hk2 : k ≤ 65536 := by omega
  clear hk
  have hmk : ∀ w : World, (Instr.makeSlice 29 (.int .i64 0) (.int .i64 (k : Int))).run Try.prog w = .ok (.slice (some ⟨w.heap.size, 0, none⟩) 0 k) (w.alloc (.cells (madeCells #[.int .u16 0, .string { data := #[] }, .bool false] (k * 3)) 35)) := fun w => by
    have hr := run_make (P := Try.prog) w 29 35 i0 _ Try.underlying29 hi0 hz0 .i64 .i64 0 (k : Int) (by omega) (by omega) (by rw [hz2]; omega) (by omega)
    rw [hz1] at hr
    simpa [Value.cells] using hr
  have hk1 : (hi : Int) ≤ 65536 := by omega
  have hk3 : (lo : Int) ≤ hi := by omega
  have hsub : (hi : Int) - lo = k := by have := HK.out; omega
  have HM : Hid (RowAt w w.heap.size a1 n (fun i => .int .u16 (I i)) ∧ RowAt w w.heap.size a2 n (fun i => .string (S i)) ∧ RowAt w w.heap.size a3 n (fun i => .bool (V i))) := ⟨r1, r2, r3⟩
  clear r1 r2 r3
  go_enter Try.func7, Try.ntmps7
  go_wp2_with fail
  have HS : Hid (OwnM ((w.alloc (.cells #[.int .u64 0, .slice none 0 0] 31)).alloc (.cells (madeCells #[.int .u16 0, .string { data := #[] }, .bool false] (k * 3)) 35)) w.heap.size (w.heap.size + 1) k 0 [] ∧ ((w.alloc (.cells #[.int .u64 0, .slice none 0 0] 31)).alloc (.cells (madeCells #[.int .u16 0, .string { data := #[] }, .bool false] (k * 3)) 35)).heap[w.heap.size]? = some (.cells #[.int .u64 0, .slice none 0 0] 31 (0, 0)) ∧ Below w.heap.size w ((w.alloc (.cells #[.int .u64 0, .slice none 0 0] 31)).alloc (.cells (madeCells #[.int .u16 0, .string { data := #[] }, .bool false] (k * 3)) 35)) ∧ w.heap.size + 2 ≤ ((w.alloc (.cells #[.int .u64 0, .slice none 0 0] 31)).alloc (.cells (madeCells #[.int .u16 0, .string { data := #[] }, .bool false] (k * 3)) 35)).heap.size) := by
    refine ⟨?_, ?_, ((Below.refl _ _).alloc (Nat.le_refl _) _).alloc (by simp) _, by simp⟩
    · have := World.ownsRow_made (base := w.heap.size) (size := 3) (e := 35) (w.alloc (.cells #[.int .u64 0, .slice none 0 0] 31)) (madeCells #[.int .u16 0, .string { data := #[] }, .bool false] (k * 3)) k (by simp) (by unfold maxLen; omega) (by rw [size_madeCells])
      simpa [OwnM, flatM] using this
    · rw [Below.heap_alloc _ _ _ (by simp)]; exact heap_alloc_new _ _
  generalize ((w.alloc (.cells #[.int .u64 0, .slice none 0 0] 31)).alloc (.cells (madeCells #[.int .u16 0, .string { data := #[] }, .bool false] (k * 3)) 35)) = W at HS ⊢
  go_loopw [13, 14] (fun pb t wx => ∃ q : Nat, lo ≤ q ∧ q ≤ hi ∧ t = .int .i64 q ∧ pb = .slice (some ⟨w.heap.size + 1, 0, none⟩) (q - lo) k ∧
      OwnM wx w.heap.size (w.heap.size + 1) k (q - lo) (seg (fun i => (I i, S i, V i)) lo q) ∧ wx.heap[w.heap.size]? = some (.cells #[.int .u64 0, .slice none 0 0] 31 (0, 0)) ∧ Below w.heap.size w wx ∧ w.heap.size + 2 ≤ wx.heap.size) (fun _ t _ => hi - (intOf t).toNat)
  case atStart => exact ⟨lo, Nat.le_refl _, by omega, rfl, by rw [Nat.sub_self], by rw [Nat.sub_self, seg_start]; exact HS.out.1, HS.out.2.1, HS.out.2.2.1, HS.out.2.2.2⟩
  case round =>
    clear HS
    obtain ⟨q, hq1, hq2, rfl, rfl, hP, hC, hbel, hsz⟩ := hrel
    by_cases hlt : q < hi
    · have hma := memberAt_calls a1 a2 a3 n c1 c2 c3 q I S V wr (by omega) hn ((HM.out.1.kept hbel).mono hbel.size) ((HM.out.2.1.kept hbel).mono hbel.size) ((HM.out.2.2.kept hbel).mono hbel.size)
      unfold mbV at hma
      have HMA : Hid (Calls Try.prog 10 #[.slice a1 n c1, .slice a2 n c2, .slice a3 n c3, .int .i64 q] wr fun e w' => e = .returned (.agg #[.int .u16 (I q), .string (S q), .bool (V q)]) ∧ Below wr.heap.size wr w') := hma
      clear hma
      have HT : Hid (seg (fun i => (I i, S i, V i)) lo (q + 1) = seg (fun i => (I i, S i, V i)) lo q ++ [(I q, S q, V q)]) := seg_succ (fun i => (I i, S i, V i)) hq1
      have HB : Hid (OwnM wr w.heap.size (w.heap.size + 1) k (q - lo) (seg (fun i => (I i, S i, V i)) lo q) ∧ wr.heap[w.heap.size]? = some (.cells #[.int .u64 0, .slice none 0 0] 31 (0, 0)) ∧ Below w.heap.size w wr ∧ w.heap.size + 2 ≤ wr.heap.size) := ⟨hP, hC, hbel, hsz⟩
      clear hP hC hbel hsz
      generalize I q = y at *
      generalize S q = s at *
      generalize V q = v at *
      have hd1 : q - lo + 1 ≤ k := by have := HK.out; omega
      have hq3 : (q : Int) < hi := by omega
      go_wp2_with fail
      refine HMA.out.mono ?_
      rintro e w1 ⟨rfl, hb1⟩
      have hP : OwnM w1 w.heap.size (w.heap.size + 1) k (q - lo) (seg (fun i => (I i, S i, V i)) lo q) := HB.out.1.below hb1 HB.out.1.lt.2
      have HB1 : Hid (w1.heap[w.heap.size]? = some (.cells #[.int .u64 0, .slice none 0 0] 31 (0, 0)) ∧ Below w.heap.size w w1 ∧ w.heap.size + 2 ≤ w1.heap.size) :=
        ⟨(hb1.block _ (by have := HB.out.2.2.2; omega)).trans HB.out.2.1, HB.out.2.2.1.trans (hb1.mono HB.out.2.2.1.size), by have := HB.out.2.2.2; have := hb1.size; omega⟩
      clear hb1 HB HMA
      go_wp2_with (first | (at_builtin; refine wpList_append_fits _ rfl (.tmp 25) (.tmp 31) 29 rfl w.heap.size 35 i0 3 Try.underlying29 hi0 hz1 (w.heap.size + 1) (q - lo) k _ (by rfl) (by exact World.ownsRow.alloc hP _) ⟨w1.heap.size, 0, none⟩ 1 1 [.int .u16 y, .string s, .bool v] (by rfl) (by rfl) (three_new _ (y, s, v)) (three_ok (y, s, v)) (by omega) ?_; intro w2 hown hgrow))
      have R1 : OwnM w2 w.heap.size (w.heap.size + 1) k (q - lo + 1) (seg (fun i => (I i, S i, V i)) lo (q + 1)) := by rw [HT.out]; exact OwnM.snoc (m := (y, s, v)) hown
      have R3 := below_app HB1.out.2.1 HB1.out.2.2 hgrow (by omega)
      have R4 : w2.heap[w.heap.size]? = some (.cells #[.int .u64 0, .slice none 0 0] 31 (0, 0)) := by
        rw [hgrow.block _ (by have := HB1.out.2.2; simp; omega) (by simp), Below.heap_alloc _ _ _ (by have := HB1.out.2.2; omega)]
        exact HB1.out.1
      have hdd : q + 1 - lo = q - lo + 1 := by omega
      go_roundw
      case rel => exact ⟨q + 1, by omega, by omega, by go_num, by rw [hdd], by rw [hdd]; exact R1, R4, R3.1, R3.2⟩
      case measure => simp [intOf]; omega
    · have hqh : q = hi := by omega
      have hqk : q - lo = k := by have := HK.out; omega
      have hq3 : decide ((q : Int) < (hi : Int)) = false := by simp; omega
      rw [hqk, hqh] at hP
      have m0 : wr.cell? ⟨w.heap.size, 0, none⟩ = some (.int .u64 0) := by simp [World.cell?, hC]
      have m1 : wr.cell? ⟨w.heap.size, 1, none⟩ = some (.slice none 0 0) := by simp [World.cell?, hC]
      have f0 : wr.frozen? ⟨w.heap.size, 0, none⟩ = false := by simp [World.frozen?, hC]
      have f1 : wr.frozen? ⟨w.heap.size, 1, none⟩ = false := by simp [World.frozen?, hC]
      have HB : Hid (OwnM wr w.heap.size (w.heap.size + 1) k k (seg (fun i => (I i, S i, V i)) lo hi) ∧ wr.heap[w.heap.size]? = some (.cells #[.int .u64 0, .slice none 0 0] 31 (0, 0)) ∧ Below w.heap.size w wr) := ⟨hP, hC, hbel⟩
      clear hP hC hbel hsz
      rw [hqk]
      clear hqk
      go_wp2_with fail
      have hg := heap_setCell_same _ w.heap.size 1 _ 31 (.slice (some ⟨w.heap.size + 1, 0, none⟩) k k) (heap_setCell_same wr w.heap.size 0 _ 31 (.int .u64 x) HB.out.2.1)
      refine bodyPost_ret (results_cell_row (P := Try.prog) Try.results7 _ _ w.heap.size 31 #[.int .u64 x, .slice (some ⟨w.heap.size + 1, 0, none⟩) k k] (0, 0) _ rfl hg Try.underlying31 rfl (by kernel_rfl)) rfl ?_
      refine ⟨⟨w.heap.size + 1, rfl, ?_⟩, (HB.out.2.2.setCell (p := ⟨w.heap.size, 0, none⟩) (Nat.le_refl _) _).setCell (p := ⟨w.heap.size, 1, none⟩) (Nat.le_refl _) _⟩
      exact (HB.out.1.other (by show w.heap.size + 1 ≠ w.heap.size; omega) _).other (by show w.heap.size + 1 ≠ w.heap.size; omega) _
end Go.Proofs.Qxb6630809a

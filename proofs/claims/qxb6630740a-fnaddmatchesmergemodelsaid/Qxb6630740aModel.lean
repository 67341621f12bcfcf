import Derived.Test.Qxb6630740aMid
/- zzMergeModel: the walk. -/
namespace Go.Proofs.Qxb6630740a
open Go.RowKit

/-- The row at block b, of room cap, holds the n numbers A. -/
def Own (w : World) (base b cap n : Nat) (A : List Int) : Prop := w.ownsRow base 23 1 (.slice (some ⟨b, 0, none⟩) n cap) n (A.map (Value.int .u64))

section
variable {w w' : World} {base b cap n : Nat} {A : List Int}

theorem Own.len (h : Own w base b cap n A) : A.length = n := by have := h.1; simpa using this
theorem Own.alloc (h : Own w base b cap n A) (o : Obj) : Own (w.alloc o) base b cap n A := World.ownsRow.alloc h o
theorem Own.drewN (h : Own w base b cap n A) (d : Nat) : Own (w.drewN d) base b cap n A := h
theorem Own.kept {g : Nat} (h : Own w base b cap n A) (hg : w.grownBy w' (some g)) (hne : b ≠ g) : Own w' base b cap n A := World.ownsRow.kept h hg (.inr (by simpa [Value.ownBlock] using hne))
theorem Own.cell (h : Own w base b cap n A) {j : Nat} (hj : j < n) : w.cell? ⟨b, j, none⟩ = some (.int .u64 (A.getD j 0)) := by
  have hl := h.len
  rw [World.ownsRow.cellAt h j (by omega)]
  simp [List.getD, show j < A.length by omega]
theorem Own.free (h : Own w base b cap n A) (j : Nat) : w.frozen? ⟨b, j, none⟩ = false := World.ownsRow.frozenAt h j
theorem Own.stored (h : Own w base b cap n A) (j : Nat) (x : Int) : Own (w.setCell ⟨b, j, none⟩ (.int .u64 x)) base b cap n (A.set j x) := by
  have := (World.ownsRow.stored h j (.int .u64 x)).1
  unfold Own
  rw [List.map_set]
  exact this
theorem Own.other (h : Own w base b cap n A) {a : Addr} (ha : b ≠ a.block) (u : Value) : Own (w.setCell a u) base b cap n A := by
  refine ⟨h.1, ?_⟩
  rcases h.2 with e | ⟨g, cap', cur, e, hb, hh, r⟩
  · exact .inl e
  · refine .inr ⟨g, cap', cur, e, hb, ?_, r⟩
    simp only [Value.slice.injEq, Option.some.injEq, Addr.mk.injEq, and_true, true_and] at e
    rw [Below.heap_setCell _ _ _ _ (by rw [← e.1]; exact ha)]
    exact hh
theorem Own.lt (h : Own w base b cap n A) : base ≤ b ∧ b < w.heap.size := World.ownsRow.lt h b rfl
theorem Own.snoc {x : Int} (h : w.ownsRow base 23 1 (.slice (some ⟨b, 0, none⟩) (n + 1) cap) (n + 1) (A.map (Value.int .u64) ++ [.int .u64 x])) : Own w base b cap (n + 1) (A ++ [x]) := by
  unfold Own
  rw [List.map_append]
  exact h
theorem Own.rowIn (h : Own w base b cap n A) : RowIn w w.heap.size (some ⟨b, 0, none⟩) A := fun _ =>
  ⟨b, 0, rfl, h.lt.2, fun i hi => by rw [Nat.zero_add]; exact h.cell (by rw [← h.len]; exact hi)⟩
theorem Own.start (w : World) (base cap : Nat) (hb : base ≤ w.heap.size) (hm : cap ≤ maxLen) : Own (w.alloc (.cells (madeCells #[.int .u64 0] cap) 23)) base w.heap.size cap 0 [] :=
  World.ownsRow_made w _ cap hb hm (by rw [size_madeCells, Nat.mul_one])
end

/-- One new cell, laid for an append. -/
theorem one_new (w : World) (x : Int) : ∀ j u, [Value.int .u64 x][j]? = some u → (w.alloc (.cells #[.int .u64 x] 23)).cell? ((⟨w.heap.size, 0, none⟩ : Addr).add j) = some u :=
  World.news_of_block (cs := #[.int .u64 x]) (t := 23) (fr := (0, 0)) (heap_alloc_new w _)

theorem one_ok (x : Int) : ∀ u ∈ [Value.int .u64 x], u.oneCell' = true := by simp [Value.oneCell']

/-- A number's cell, behind the append to another row. -/
theorem cell_kept {w w1 : World} {o : Obj} {g b off : Nat} {v : Value} (h : w.cell? ⟨b, off, none⟩ = some v) (hg : (w.alloc o).grownBy w1 (some g)) (hne : ¬ b = g) : w1.cell? ⟨b, off, none⟩ = some v :=
  hg.cell (by rw [World.cell?_alloc_lt _ _ _ (World.block_lt_of_cell? w _ h)]; exact h) (by simpa using hne)

theorem below_app {w w0 w1 : World} {o : Obj} {g m : Nat} (hb : Below w0.heap.size w0 w) (hs : w0.heap.size + m ≤ w.heap.size) (hg : (w.alloc o).grownBy w1 (some g)) (hgb : w0.heap.size ≤ g) :
    Below w0.heap.size w0 w1 ∧ w0.heap.size + m ≤ w1.heap.size := by
  refine ⟨(hb.alloc (by omega) o).grown hg (by simp; omega) (fun k hk => by obtain rfl := Option.some.inj hk; exact hgb), ?_⟩
  have := hg.size
  simp at this
  omega

theorem take_snoc1 {z : List Int} {i : Nat} (h : i < z.length) : z.take (i + 1) = z.take i ++ [z.getD i 0] := by
  rw [List.take_succ_eq_append_getElem h]
  congr 2
  simp [List.getD, h]

set_option maxRecDepth 100000 in
set_option maxHeartbeats 3200000 in
theorem model_calls (a1 a2 : Option Addr) (k c1 c2 : Nat) (z1 z2 : List Int) (n : Int) (w : World) (l1 : z1.length = k) (l2 : z2.length = k) (r1 : RowIn w w.heap.size a1 z1) (r2 : RowIn w w.heap.size a2 z2) (hk : k ≤ 131072)
    (hn0 : 0 ≤ n) (hn1 : n < 18446744073709551615) (b1 : ∀ x ∈ z1, 0 ≤ x ∧ x ≤ 18446744073709551615) (b2 : ∀ x ∈ z2, 0 ≤ x ∧ x < 18446744073709551615) :
    Calls Try.prog 11 #[.slice a1 k c1, .slice a2 k c2, .int .u64 n] w fun e w' => ∃ p q m cf cl, e = .returned (.tuple #[.slice (some ⟨p, 0, none⟩) m cf, .slice (some ⟨q, 0, none⟩) m cl]) ∧
      Own w' w.heap.size p cf m ((sweep (ins n (z1.zip z2))).map (·.1)) ∧ Own w' w.heap.size q cl m ((sweep (ins n (z1.zip z2))).map (·.2)) ∧ Below w.heap.size w w' := by
  obtain ⟨i0, hi0, hz0, hz1, hz2⟩ := info_parts info23
  have hmk : ∀ w : World, (Instr.makeSlice 22 (.int .i64 0) (.int .i64 ((k : Int) + 1))).run Try.prog w = .ok (.slice (some ⟨w.heap.size, 0, none⟩) 0 (k + 1)) (w.alloc (.cells (madeCells #[.int .u64 0] (k + 1)) 23)) := fun w => by
    have hr := run_make (P := Try.prog) w 22 23 i0 _ Try.underlying22 hi0 hz0 .i64 .i64 0 ((k : Int) + 1) (by omega) (by omega) (by rw [hz2]; omega) (by omega)
    rw [hz1, show ((k : Int) + 1).toNat = k + 1 from by omega] at hr
    simpa [Value.cells] using hr
  have hk1 : (k : Int) ≤ 131072 := by omega
  have HR : Hid (z1.length = k ∧ z2.length = k ∧ (∀ x ∈ z1, 0 ≤ x ∧ x ≤ 18446744073709551615) ∧ ∀ x ∈ z2, 0 ≤ x ∧ x < 18446744073709551615) := ⟨l1, l2, b1, b2⟩
  clear l1 l2 b1 b2
  have HP0 : Hid (Own ((w.alloc (.cells (madeCells #[.int .u64 0] (k + 1)) 23)).alloc (.cells (madeCells #[.int .u64 0] (k + 1)) 23)) w.heap.size w.heap.size (k + 1) 0 [] ∧
      Own ((w.alloc (.cells (madeCells #[.int .u64 0] (k + 1)) 23)).alloc (.cells (madeCells #[.int .u64 0] (k + 1)) 23)) w.heap.size (w.heap.size + 1) (k + 1) 0 []) := by
    refine ⟨(Own.start w w.heap.size (k + 1) (Nat.le_refl _) (by unfold maxLen; omega)).alloc _, ?_⟩
    have := Own.start (w.alloc (.cells (madeCells #[.int .u64 0] (k + 1)) 23)) w.heap.size (k + 1) (by simp) (by unfold maxLen; omega)
    simpa using this
  go_enter Try.func11, Try.ntmps11
  go_wp2
  have HW0 : Hid (Below w.heap.size w ((w.alloc (.cells (madeCells #[.int .u64 0] (k + 1)) 23)).alloc (.cells (madeCells #[.int .u64 0] (k + 1)) 23)) ∧ w.heap.size + 2 ≤ ((w.alloc (.cells (madeCells #[.int .u64 0] (k + 1)) 23)).alloc (.cells (madeCells #[.int .u64 0] (k + 1)) 23)).heap.size) :=
    ⟨((Below.refl _ _).alloc (Nat.le_refl _) _).alloc (by simp) _, by simp⟩
  generalize ((w.alloc (.cells (madeCells #[.int .u64 0] (k + 1)) 23)).alloc (.cells (madeCells #[.int .u64 0] (k + 1)) 23)) = W0 at HP0 HW0 ⊢
  go_loop [11] (fun t => ∃ j : Nat, j ≤ k ∧ t = .int .i64 j ∧ ∀ i, i < j → z1.getD i 0 ≤ n) (fun t => k - (intOf t).toNat)
  case atStart => exact ⟨0, Nat.zero_le _, rfl, fun j hj => absurd hj (Nat.not_lt_zero _)⟩
  case round =>
    obtain ⟨j, hj, rfl, hall⟩ := hrel
    have HA : Hid (∀ i, i < j → z1.getD i 0 ≤ n) := hall
    clear hall
    by_cases hcont : j < k ∧ z1.getD j 0 ≤ n
    · obtain ⟨hlt, hle⟩ := hcont
      obtain ⟨bb1, o1, rfl, hb1, e1⟩ := (r1.kept HW0.out.1).at (k := j) (by rw [HR.out.1]; exact hlt)
      have d1 := e1 j (by rw [HR.out.1]; exact hlt)
      clear e1
      generalize hx : z1.getD j 0 = x at *
      have HX : Hid (z1.getD j 0 = x) := hx
      clear hx
      have hj1 : (j : Int) < k := by omega
      go_wp2
      go_round
      case rel =>
        refine ⟨j + 1, by omega, by go_num, fun i hi => ?_⟩
        by_cases e : i = j
        · subst e; rw [HX.out]; exact hle
        · exact HA.out i (by omega)
      case measure => simp [intOf]; omega
    · have hstop : j < k → n < z1.getD j 0 := fun h => by
        by_cases e : z1.getD j 0 ≤ n
        · exact absurd ⟨h, e⟩ hcont
        · omega
      have HJ : Hid (j < k → n < z1.getD j 0) := hstop
      clear hcont hstop
      have HZ : Hid ((ins n (z1.zip z2)).map (·.1) = mid z1 n j k ∧ (ins n (z1.zip z2)).map (·.2) = mid z2 n j k) := mid_zip HR.out.1 HR.out.2.1 hj HA.out HJ.out
      by_cases hlt : j < k
      · obtain ⟨bb1, o1, rfl, hb1, e1⟩ := (r1.kept HW0.out.1).at (k := j) (by rw [HR.out.1]; exact hlt)
        have d1 := e1 j (by rw [HR.out.1]; exact hlt)
        have hgt := HJ.out hlt
        have hdt : decide (z1.getD j 0 ≤ n) = false := by simp only [decide_eq_false_iff_not]; omega
        clear e1
        generalize z1.getD j 0 = x at *
        have hj1 : (j : Int) < k := by omega
        go_wp2_with fail
        clear d1 hgt hdt hj1
        go_loopw [9, 10, 12] (fun pf pl t wx => ∃ i : Nat, i ≤ j ∧ t = .int .i64 i ∧ pf = .slice (some ⟨w.heap.size, 0, none⟩) i (k + 1) ∧ pl = .slice (some ⟨w.heap.size + 1, 0, none⟩) i (k + 1) ∧
            Own wx w.heap.size (w.heap.size) (k + 1) i (z1.take i) ∧ Own wx w.heap.size (w.heap.size + 1) (k + 1) i (z2.take i) ∧ Below w.heap.size w wx ∧ w.heap.size + 2 ≤ wx.heap.size) (fun _ _ t _ => j - (intOf t).toNat)
        case atStart => exact ⟨0, Nat.zero_le _, rfl, rfl, rfl, HP0.out.1, HP0.out.2, HW0.out.1, HW0.out.2⟩
        case round =>
          clear HP0 HW0
          obtain ⟨i, hi, rfl, rfl, rfl, hP, hQ, hbel, hsz⟩ := hrel
          by_cases hlti : i < j
          · have hik : i < k := by omega
            obtain ⟨bb, oo, ea1, hb1, e1⟩ := (r1.kept hbel).at (k := i) (by rw [HR.out.1]; exact hik)
            cases ea1
            obtain ⟨bb2, oo2, ea2, hb2, e2⟩ := (r2.kept hbel).at (k := i) (by rw [HR.out.2.1]; exact hik)
            cases ea2
            have d1 := e1 i (by rw [HR.out.1]; exact hik)
            have d2 := e2 i (by rw [HR.out.2.1]; exact hik)
            have ht1 : z1.take (i + 1) = z1.take i ++ [z1.getD i 0] := take_snoc1 (by rw [HR.out.1]; exact hik)
            have ht2 : z2.take (i + 1) = z2.take i ++ [z2.getD i 0] := take_snoc1 (by rw [HR.out.2.1]; exact hik)
            have HT : Hid (z1.take (i + 1) = z1.take i ++ [z1.getD i 0] ∧ z2.take (i + 1) = z2.take i ++ [z2.getD i 0]) := ⟨ht1, ht2⟩
            clear e1 e2 ht1 ht2
            generalize z1.getD i 0 = x at *
            generalize z2.getD i 0 = y at *
            have hi1 : (i : Int) < (j : Int) := by omega
            have hi2 : (i : Int) < (k : Int) := by omega
            have HQ : Hid (Own wr w.heap.size (w.heap.size + 1) (k + 1) i (z2.take i) ∧ Below w.heap.size w wr) := ⟨hQ, hbel⟩
            clear hQ hbel
            go_wp2_with (first | (at_builtin; refine wpList_append_fits _ rfl (.tmp 43) (.tmp 48) 22 rfl w.heap.size 23 i0 1 Try.underlying22 hi0 hz1 (w.heap.size) (i) (k + 1) _ (by rfl) (by exact World.ownsRow.alloc hP _) ⟨wr.heap.size, 0, none⟩ 1 1 [.int .u64 x] (by rfl) (by rfl) (one_new _ _) (one_ok _) (by omega) ?_; intro w1 hown1 hgrow1; have hd2 := (cell_kept (h := d2) hgrow1 (by omega)); have HQ1 : Hid (Own w1 w.heap.size (w.heap.size + 1) (k + 1) i (z2.take i)) := (HQ.out.1.alloc _).kept hgrow1 (by omega); have HB1 : Hid (Below w.heap.size w w1 ∧ w.heap.size + 2 ≤ w1.heap.size) := below_app HQ.out.2 hsz hgrow1 (Nat.le_refl _)) | (at_builtin; refine wpList_append_fits _ rfl (.tmp 50) (.tmp 55) 22 rfl w.heap.size 23 i0 1 Try.underlying22 hi0 hz1 (w.heap.size + 1) (i) (k + 1) _ (by rfl) (by exact World.ownsRow.alloc HQ1.out _) ⟨w1.heap.size, 0, none⟩ 1 1 [.int .u64 y] (by rfl) (by rfl) (one_new _ _) (one_ok _) (by omega) ?_; intro w2 hown2 hgrow2))
            have R1 : Own w2 w.heap.size (w.heap.size) (k + 1) (i + 1) (z1.take (i + 1)) := by rw [HT.out.1]; exact ((Own.snoc hown1).alloc _).kept hgrow2 (by omega)
            have R2 : Own w2 w.heap.size (w.heap.size + 1) (k + 1) (i + 1) (z2.take (i + 1)) := by rw [HT.out.2]; exact Own.snoc hown2
            have R3 := below_app HB1.out.1 HB1.out.2 hgrow2 (by omega)
            go_roundw
            case rel => exact ⟨i + 1, by omega, by go_num, rfl, rfl, R1, R2, R3.1, R3.2⟩
            case measure => simp [intOf]; omega
          · have hij : i = j := by omega
            subst hij
            have hi1 : decide ((i : Int) < (i : Int)) = false := by simp
            have HQ : Hid (Own wr w.heap.size (w.heap.size + 1) (k + 1) i (z2.take i) ∧ Below w.heap.size w wr) := ⟨hQ, hbel⟩
            clear hQ hbel
            go_wp2_with (first | (at_builtin; refine wpList_append_fits _ rfl (.tmp 57) (.tmp 59) 22 rfl w.heap.size 23 i0 1 Try.underlying22 hi0 hz1 (w.heap.size) (i) (k + 1) _ (by rfl) (by exact World.ownsRow.alloc hP _) ⟨wr.heap.size, 0, none⟩ 1 1 [.int .u64 n] (by rfl) (by rfl) (one_new _ _) (one_ok _) (by omega) ?_; intro w1 hown1 hgrow1; have HQ1 : Hid (Own w1 w.heap.size (w.heap.size + 1) (k + 1) i (z2.take i)) := (HQ.out.1.alloc _).kept hgrow1 (by omega); have HB1 : Hid (Below w.heap.size w w1 ∧ w.heap.size + 2 ≤ w1.heap.size) := below_app HQ.out.2 hsz hgrow1 (Nat.le_refl _)) | (at_builtin; refine wpList_append_fits _ rfl (.tmp 61) (.tmp 63) 22 rfl w.heap.size 23 i0 1 Try.underlying22 hi0 hz1 (w.heap.size + 1) (i) (k + 1) _ (by rfl) (by exact World.ownsRow.alloc HQ1.out _) ⟨w1.heap.size, 0, none⟩ 1 1 [.int .u64 n] (by rfl) (by rfl) (one_new _ _) (one_ok _) (by omega) ?_; intro w2 hown2 hgrow2))
            have R1 : Own w2 w.heap.size (w.heap.size) (k + 1) (i + 1) (z1.take i ++ [n]) := ((Own.snoc hown1).alloc _).kept hgrow2 (by omega)
            have R2 : Own w2 w.heap.size (w.heap.size + 1) (k + 1) (i + 1) (z2.take i ++ [n]) := Own.snoc hown2
            have R3 := below_app HB1.out.1 HB1.out.2 hgrow2 (by omega)
            have HS : Hid (Own w2 w.heap.size (w.heap.size) (k + 1) (i + 1) (mid z1 n i i) ∧ Own w2 w.heap.size (w.heap.size + 1) (k + 1) (i + 1) (mid z2 n i i) ∧ Below w.heap.size w w2 ∧ w.heap.size + 2 ≤ w2.heap.size) := ⟨by rw [mid_start]; exact R1, by rw [mid_start]; exact R2, R3.1, R3.2⟩
            clear R1 R2 R3 hown1 hgrow1 hown2 hgrow2 HQ1 HB1 HQ hsz hP
            go_loopw [9, 10, 13] (fun pf pl t wx => ∃ q : Nat, i ≤ q ∧ q ≤ k ∧ t = .int .i64 q ∧ pf = .slice (some ⟨w.heap.size, 0, none⟩) (q + 1) (k + 1) ∧ pl = .slice (some ⟨w.heap.size + 1, 0, none⟩) (q + 1) (k + 1) ∧
                Own wx w.heap.size (w.heap.size) (k + 1) (q + 1) (mid z1 n i q) ∧ Own wx w.heap.size (w.heap.size + 1) (k + 1) (q + 1) (mid z2 n i q) ∧ Below w.heap.size w wx ∧ w.heap.size + 2 ≤ wx.heap.size) (fun _ _ t _ => k - (intOf t).toNat)
            case atStart => exact ⟨i, Nat.le_refl _, hj, rfl, rfl, rfl, HS.out.1, HS.out.2.1, HS.out.2.2.1, HS.out.2.2.2⟩
            case round =>
              clear HS
              obtain ⟨q, hiq, hqk, rfl, rfl, rfl, hP, hQ, hbel, hsz⟩ := hrel
              by_cases hltq : q < k
              · obtain ⟨bb, oo, ea1, hb1, e1⟩ := (r1.kept hbel).at (k := q) (by rw [HR.out.1]; exact hltq)
                cases ea1
                obtain ⟨bb2, oo2, ea2, hb2, e2⟩ := (r2.kept hbel).at (k := q) (by rw [HR.out.2.1]; exact hltq)
                cases ea2
                have d1 := e1 q (by rw [HR.out.1]; exact hltq)
                have d2 := e2 q (by rw [HR.out.2.1]; exact hltq)
                have HT : Hid (mid z1 n i (q + 1) = mid z1 n i q ++ [z1.getD q 0] ∧ mid z2 n i (q + 1) = mid z2 n i q ++ [z2.getD q 0]) := ⟨mid_succ hiq (by rw [HR.out.1]; exact hltq), mid_succ hiq (by rw [HR.out.2.1]; exact hltq)⟩
                clear e1 e2
                generalize z1.getD q 0 = x at *
                generalize z2.getD q 0 = y at *
                have hq1 : (q : Int) < (k : Int) := by omega
                have HQ : Hid (Own wr w.heap.size (w.heap.size + 1) (k + 1) (q + 1) (mid z2 n i q) ∧ Below w.heap.size w wr) := ⟨hQ, hbel⟩
                clear hQ hbel
                go_wp2_with (first | (at_builtin; refine wpList_append_fits _ rfl (.tmp 71) (.tmp 76) 22 rfl w.heap.size 23 i0 1 Try.underlying22 hi0 hz1 (w.heap.size) (q + 1) (k + 1) _ (by rfl) (by exact World.ownsRow.alloc hP _) ⟨wr.heap.size, 0, none⟩ 1 1 [.int .u64 x] (by rfl) (by rfl) (one_new _ _) (one_ok _) (by omega) ?_; intro w1 hown1 hgrow1; have hd2 := (cell_kept (h := d2) hgrow1 (by omega)); have HQ1 : Hid (Own w1 w.heap.size (w.heap.size + 1) (k + 1) (q + 1) (mid z2 n i q)) := (HQ.out.1.alloc _).kept hgrow1 (by omega); have HB1 : Hid (Below w.heap.size w w1 ∧ w.heap.size + 2 ≤ w1.heap.size) := below_app HQ.out.2 hsz hgrow1 (Nat.le_refl _)) | (at_builtin; refine wpList_append_fits _ rfl (.tmp 78) (.tmp 83) 22 rfl w.heap.size 23 i0 1 Try.underlying22 hi0 hz1 (w.heap.size + 1) (q + 1) (k + 1) _ (by rfl) (by exact World.ownsRow.alloc HQ1.out _) ⟨w1.heap.size, 0, none⟩ 1 1 [.int .u64 y] (by rfl) (by rfl) (one_new _ _) (one_ok _) (by omega) ?_; intro w2 hown2 hgrow2))
                have R1 : Own w2 w.heap.size (w.heap.size) (k + 1) (q + 1 + 1) (mid z1 n i (q + 1)) := by rw [HT.out.1]; exact ((Own.snoc hown1).alloc _).kept hgrow2 (by omega)
                have R2 : Own w2 w.heap.size (w.heap.size + 1) (k + 1) (q + 1 + 1) (mid z2 n i (q + 1)) := by rw [HT.out.2]; exact Own.snoc hown2
                have R3 := below_app HB1.out.1 HB1.out.2 hgrow2 (by omega)
                go_roundw
                case rel => exact ⟨q + 1, by omega, by omega, by go_num, rfl, rfl, R1, R2, R3.1, R3.2⟩
                case measure => simp [intOf]; omega
              · have hqk : q = k := by omega
                rw [hqk] at hP hQ
                have hq1 : decide ((q : Int) < (k : Int)) = false := by simp; omega
                have hmz := HZ.out
                have HX : Hid ((ins n (z1.zip z2)).length = k + 1 ∧ ∀ x ∈ ins n (z1.zip z2), 0 ≤ x.2 ∧ x.2 < 18446744073709551615) := by
                  refine ⟨by rw [ins_len]; simp [HR.out.1, HR.out.2.1], fun x hx => ?_⟩
                  rcases ins_mem hx with e | e
                  · rw [e]; exact ⟨hn0, hn1⟩
                  · exact HR.out.2.2.2 _ (List.of_mem_zip e).2
                rw [← hmz.1] at hP
                rw [← hmz.2] at hQ
                clear hmz
                generalize hXe : ins n (z1.zip z2) = X at *
                have HXE : Hid (ins n (z1.zip z2) = X) := hXe
                clear hXe
                have HS : Hid (Own wr w.heap.size (w.heap.size) (k + 1) (k + 1) (X.map (·.1)) ∧ Own wr w.heap.size (w.heap.size + 1) (k + 1) (k + 1) (X.map (·.2)) ∧ Below w.heap.size w wr ∧ w.heap.size + 2 ≤ wr.heap.size) := ⟨hP, hQ, hbel, hsz⟩
                clear hP hQ hbel hsz r1 r2 HJ HA HR HZ
                rw [hqk]
                clear hqk hltq
                go_wp2_with fail
                have HS4 : Hid (Own ((wr.alloc (.cells (madeCells #[.int .u64 0] (k + 1)) 23)).alloc (.cells (madeCells #[.int .u64 0] (k + 1)) 23)) w.heap.size (w.heap.size) (k + 1) (k + 1) (X.map (·.1)) ∧
                    Own ((wr.alloc (.cells (madeCells #[.int .u64 0] (k + 1)) 23)).alloc (.cells (madeCells #[.int .u64 0] (k + 1)) 23)) w.heap.size (w.heap.size + 1) (k + 1) (k + 1) (X.map (·.2)) ∧
                    Own ((wr.alloc (.cells (madeCells #[.int .u64 0] (k + 1)) 23)).alloc (.cells (madeCells #[.int .u64 0] (k + 1)) 23)) w.heap.size wr.heap.size (k + 1) 0 [] ∧
                    Own ((wr.alloc (.cells (madeCells #[.int .u64 0] (k + 1)) 23)).alloc (.cells (madeCells #[.int .u64 0] (k + 1)) 23)) w.heap.size (wr.heap.size + 1) (k + 1) 0 [] ∧
                    Below w.heap.size w ((wr.alloc (.cells (madeCells #[.int .u64 0] (k + 1)) 23)).alloc (.cells (madeCells #[.int .u64 0] (k + 1)) 23)) ∧
                    wr.heap.size + 2 ≤ ((wr.alloc (.cells (madeCells #[.int .u64 0] (k + 1)) 23)).alloc (.cells (madeCells #[.int .u64 0] (k + 1)) 23)).heap.size) := by
                  obtain ⟨o1, o2, o3, o4⟩ := HS.out
                  refine ⟨(o1.alloc _).alloc _, (o2.alloc _).alloc _, (Own.start wr w.heap.size (k + 1) (by omega) (by unfold maxLen; omega)).alloc _, ?_, (o3.alloc (by omega) _).alloc (by simp; omega) _, by simp⟩
                  have := Own.start (wr.alloc (.cells (madeCells #[.int .u64 0] (k + 1)) 23)) w.heap.size (k + 1) (by simp; omega) (by unfold maxLen; omega)
                  simpa using this
                have hR := HS.out.2.2.2
                clear HS
                generalize ((wr.alloc (.cells (madeCells #[.int .u64 0] (k + 1)) 23)).alloc (.cells (madeCells #[.int .u64 0] (k + 1)) 23)) = W4 at HS4 ⊢
                generalize wr.heap.size = R at *
                go_loopw [14, 15, 16] (fun pf pl t wx => ∃ g m : Nat, g ≤ k + 1 ∧ t = .int .i64 g ∧ pf = .slice (some ⟨R, 0, none⟩) m (k + 1) ∧ pl = .slice (some ⟨R + 1, 0, none⟩) m (k + 1) ∧ m ≤ g ∧
                    Own wx w.heap.size R (k + 1) m ((sweep (X.take g)).map (·.1)) ∧ Own wx w.heap.size (R + 1) (k + 1) m ((sweep (X.take g)).map (·.2)) ∧
                    Own wx w.heap.size (w.heap.size) (k + 1) (k + 1) (X.map (·.1)) ∧ Own wx w.heap.size (w.heap.size + 1) (k + 1) (k + 1) (X.map (·.2)) ∧ Below w.heap.size w wx ∧ R + 2 ≤ wx.heap.size) (fun _ _ t _ => k + 1 - (intOf t).toNat)
                case atStart => exact ⟨0, 0, Nat.zero_le _, rfl, rfl, rfl, Nat.le_refl _, HS4.out.2.2.1, HS4.out.2.2.2.1, HS4.out.1, HS4.out.2.1, HS4.out.2.2.2.2.1, HS4.out.2.2.2.2.2⟩
                case round =>
                  clear HS4
                  obtain ⟨g, m, hg, rfl, rfl, rfl, hmg, hF, hL, hP, hQ, hbel, hsz⟩ := hrel
                  by_cases hltg : g < k + 1
                  · have hgX : g < X.length := by rw [HX.out.1]; exact hltg
                    have c1 := hP.cell hltg
                    have c2 := hQ.cell hltg
                    rw [getD_map1 hgX] at c1
                    rw [getD_map2 hgX] at c2
                    have HT : Hid (sweep (X.take (g + 1)) = mstep (sweep (X.take g)) X[g]) := by
                      show sweep (X.take (g + 1)) = _
                      rw [take_snoc2 hgX, sweep_snoc]
                    have HG : Hid (∀ x ∈ sweep (X.take g), 0 ≤ x.2 ∧ x.2 < 18446744073709551615) := sweep_bound (P := fun y => 0 ≤ y ∧ y < 18446744073709551615) _ (fun x hx => HX.out.2 x (List.mem_of_mem_take hx))
                    generalize X[g] = fl at *
                    obtain ⟨f, l⟩ := fl
                    have hg1 : (g : Int) < (k : Int) + 1 := by omega
                    have HK : Hid (Own wr w.heap.size (w.heap.size) (k + 1) (k + 1) (X.map (·.1)) ∧ Own wr w.heap.size (w.heap.size + 1) (k + 1) (k + 1) (X.map (·.2)) ∧ Below w.heap.size w wr ∧ R + 2 ≤ wr.heap.size) := ⟨hP, hQ, hbel, hsz⟩
                    clear hP hQ hbel
                    generalize sweep (X.take g) = acc at *
                    have hR2 : R + 2 ≤ wr.heap.size := HK.out.2.2.2
                    rcases List.eq_nil_or_concat acc with e0 | ⟨a, z, ez⟩
                    · subst e0
                      obtain rfl : m = 0 := by have := hF.len; simpa using this.symm
                      have HFL : Hid (Own wr w.heap.size R (k + 1) 0 ([] : List Int) ∧ Own wr w.heap.size (R + 1) (k + 1) 0 ([] : List Int)) := ⟨hF, hL⟩
                      clear hF hL hsz hR2
                      go_wp2_with fail
                      go_quiet (fail)
                      have hpk : (wr.drewN nq).cell? ⟨w.heap.size, g, none⟩ = some (.int .u64 f) ∧ (wr.drewN nq).cell? ⟨w.heap.size + 1, g, none⟩ = some (.int .u64 l) ∧ Hid (Own (wr.drewN nq) w.heap.size R (k + 1) (0) ([] : List Int) ∧ Own (wr.drewN nq) w.heap.size (R + 1) (k + 1) (0) ([] : List Int)) ∧ Hid (Own (wr.drewN nq) w.heap.size (w.heap.size) (k + 1) (k + 1) (X.map (·.1)) ∧ Own (wr.drewN nq) w.heap.size (w.heap.size + 1) (k + 1) (k + 1) (X.map (·.2)) ∧ Below w.heap.size w (wr.drewN nq) ∧ R + 2 ≤ (wr.drewN nq).heap.size) := ⟨c1, c2, HFL.out, HK.out.1, HK.out.2.1, below_drewN HK.out.2.2.1 _, HK.out.2.2.2⟩
                      clear c1 c2 HFL HK
                      generalize wr.drewN nq = W at *
                      obtain ⟨c1, c2, HFL, HK⟩ := hpk
                      go_wp2_with (first | (at_builtin; refine wpList_append_fits _ rfl (.tmp 134) (.tmp 139) 22 rfl w.heap.size 23 i0 1 Try.underlying22 hi0 hz1 (R) (0) (k + 1) _ (by rfl) (by exact World.ownsRow.alloc HFL.out.1 _) ⟨W.heap.size, 0, none⟩ 1 1 [.int .u64 f] (by rfl) (by rfl) (one_new _ _) (one_ok _) (by omega) ?_; intro w1 hown1 hgrow1; have hd2 := (cell_kept (h := c2) hgrow1 (by omega)); have HQ1 : Hid (Own w1 w.heap.size (R + 1) (k + 1) (0) ([] : List Int)) := (HFL.out.2.alloc _).kept hgrow1 (by omega); have HK1 : Hid (Own w1 w.heap.size (w.heap.size) (k + 1) (k + 1) (X.map (·.1)) ∧ Own w1 w.heap.size (w.heap.size + 1) (k + 1) (k + 1) (X.map (·.2))) := ⟨(HK.out.1.alloc _).kept hgrow1 (by omega), (HK.out.2.1.alloc _).kept hgrow1 (by omega)⟩; have HB1 : Hid (Below w.heap.size w w1 ∧ w.heap.size + (R - w.heap.size + 2) ≤ w1.heap.size) := below_app HK.out.2.2.1 (by have := HK.out.2.2.2; omega) hgrow1 (by omega)) | (at_builtin; refine wpList_append_fits _ rfl (.tmp 141) (.tmp 146) 22 rfl w.heap.size 23 i0 1 Try.underlying22 hi0 hz1 (R + 1) (0) (k + 1) _ (by rfl) (by exact World.ownsRow.alloc HQ1.out _) ⟨w1.heap.size, 0, none⟩ 1 1 [.int .u64 l] (by rfl) (by rfl) (one_new _ _) (one_ok _) (by omega) ?_; intro w2 hown2 hgrow2))
                      have R1 : Own w2 w.heap.size R (k + 1) (0 + 1) ((sweep (X.take (g + 1))).map (·.1)) := by rw [HT.out]; rw [show mstep [] (f, l) = [(f, l)] from rfl]; exact ((Own.snoc (A := ([] : List Int)) hown1).alloc _).kept hgrow2 (by omega)
                      have R2 : Own w2 w.heap.size (R + 1) (k + 1) (0 + 1) ((sweep (X.take (g + 1))).map (·.2)) := by rw [HT.out]; rw [show mstep [] (f, l) = [(f, l)] from rfl]; exact Own.snoc (A := ([] : List Int)) hown2
                      have R3 := below_app HB1.out.1 HB1.out.2 hgrow2 (by omega)
                      have R4 := (HK1.out.1.alloc _).kept hgrow2 (by omega)
                      have R5 := (HK1.out.2.alloc _).kept hgrow2 (by omega)
                      go_roundw
                      case rel => exact ⟨g + 1, 0 + 1, by omega, by go_num, rfl, rfl, by omega, R1, R2, R4, R5, R3.1, by have := R3.2; omega⟩
                      case measure => simp [intOf]; omega
                    · rw [List.concat_eq_append] at ez
                      subst ez
                      obtain ⟨zf, zl⟩ := z
                      obtain ⟨p, rfl⟩ : ∃ p, m = p + 1 := ⟨a.length, by have := hF.len; simpa using this.symm⟩
                      have hpl : a.length = p := by have := hF.len; simpa using this
                      have c3 := hL.cell (j := p) (by omega)
                      have hz3 : ((a ++ [(zf, zl)]).map (·.2)).getD p 0 = zl := by simp [List.getD, ← hpl]
                      rw [hz3] at c3
                      have hzb : 0 ≤ zl ∧ zl < 18446744073709551615 := HG.out (zf, zl) (by simp)
                      obtain ⟨hzb0, hzb1⟩ := hzb
                      have HPL : Hid (a.length = p) := hpl
                      clear hz3 hpl
                      have HFL : Hid (Own wr w.heap.size R (k + 1) (p + 1) ((a ++ [(zf, zl)]).map (·.1)) ∧ Own wr w.heap.size (R + 1) (k + 1) (p + 1) ((a ++ [(zf, zl)]).map (·.2))) := ⟨hF, hL⟩
                      clear hF hL hsz hR2
                      have hp1 : (0 : Int) ≤ (p : Int) := by omega
                      have hp2 : (p : Int) < (p : Int) + 1 := by omega
                      have hp4 : (0 : Int) < (p : Int) + 1 := by omega
                      have t3 : decide ((0 : Int) < (p : Int) + 1) = true := decide_eq_true hp4
                      by_cases hnear : f ≤ zl + 1
                      · have t4 : decide (f ≤ zl + 1) = true := decide_eq_true hnear
                        by_cases hmore : zl < l
                        · have t5 : decide (zl < l) = true := decide_eq_true hmore
                          go_wp2_with fail
                          go_quiet (fail)
                          have hpk : (wr.drewN nq).cell? ⟨w.heap.size, g, none⟩ = some (.int .u64 f) ∧ (wr.drewN nq).cell? ⟨w.heap.size + 1, g, none⟩ = some (.int .u64 l) ∧ (wr.drewN nq).cell? ⟨R + 1, p, none⟩ = some (.int .u64 zl) ∧ Hid (Own (wr.drewN nq) w.heap.size R (k + 1) (p + 1) ((a ++ [(zf, zl)]).map (·.1)) ∧ Own (wr.drewN nq) w.heap.size (R + 1) (k + 1) (p + 1) ((a ++ [(zf, zl)]).map (·.2))) ∧ Hid (Own (wr.drewN nq) w.heap.size (w.heap.size) (k + 1) (k + 1) (X.map (·.1)) ∧ Own (wr.drewN nq) w.heap.size (w.heap.size + 1) (k + 1) (k + 1) (X.map (·.2)) ∧ Below w.heap.size w (wr.drewN nq) ∧ R + 2 ≤ (wr.drewN nq).heap.size) := ⟨c1, c2, c3, HFL.out, HK.out.1, HK.out.2.1, below_drewN HK.out.2.2.1 _, HK.out.2.2.2⟩
                          clear c1 c2 c3 HFL HK
                          generalize wr.drewN nq = W at *
                          obtain ⟨c1, c2, c3, HFL, HK⟩ := hpk
                          clear nq
                          go_wp2_with fail
                          go_quiet (fail)
                          have hpk : (W.drewN nq).cell? ⟨w.heap.size, g, none⟩ = some (.int .u64 f) ∧ (W.drewN nq).cell? ⟨w.heap.size + 1, g, none⟩ = some (.int .u64 l) ∧ (W.drewN nq).cell? ⟨R + 1, p, none⟩ = some (.int .u64 zl) ∧ Hid (Own (W.drewN nq) w.heap.size R (k + 1) (p + 1) ((a ++ [(zf, zl)]).map (·.1)) ∧ Own (W.drewN nq) w.heap.size (R + 1) (k + 1) (p + 1) ((a ++ [(zf, zl)]).map (·.2))) ∧ Hid (Own (W.drewN nq) w.heap.size (w.heap.size) (k + 1) (k + 1) (X.map (·.1)) ∧ Own (W.drewN nq) w.heap.size (w.heap.size + 1) (k + 1) (k + 1) (X.map (·.2)) ∧ Below w.heap.size w (W.drewN nq) ∧ R + 2 ≤ (W.drewN nq).heap.size) := ⟨c1, c2, c3, HFL.out, HK.out.1, HK.out.2.1, below_drewN HK.out.2.2.1 _, HK.out.2.2.2⟩
                          clear c1 c2 c3 HFL HK
                          generalize W.drewN nq = W2 at *
                          obtain ⟨c1, c2, c3, HFL, HK⟩ := hpk
                          have cf := HFL.out.2.free p
                          go_wp2_with fail
                          have R1 : Own (W2.setCell ⟨R + 1, p, none⟩ (.int .u64 l)) w.heap.size R (k + 1) (p + 1) ((sweep (X.take (g + 1))).map (·.1)) := by
                            rw [HT.out, mstep_at, if_pos (show f ≤ zl + 1 from hnear), if_pos (show zl < l from hmore), show (a ++ [(zf, l)]).map (·.1) = (a ++ [(zf, zl)]).map (·.1) from by simp]
                            exact HFL.out.1.other (by show R ≠ R + 1; omega) _
                          have R2 : Own (W2.setCell ⟨R + 1, p, none⟩ (.int .u64 l)) w.heap.size (R + 1) (k + 1) (p + 1) ((sweep (X.take (g + 1))).map (·.2)) := by
                            rw [HT.out, mstep_at, if_pos (show f ≤ zl + 1 from hnear), if_pos (show zl < l from hmore), show (a ++ [(zf, l)]).map (·.2) = ((a ++ [(zf, zl)]).map (·.2)).set p l from by rw [← HPL.out]; simp]
                            exact HFL.out.2.stored p l
                          have R4 := HK.out.1.other (a := ⟨R + 1, p, none⟩) (by show w.heap.size ≠ R + 1; omega) (.int .u64 l)
                          have R5 := HK.out.2.1.other (a := ⟨R + 1, p, none⟩) (by show w.heap.size + 1 ≠ R + 1; omega) (.int .u64 l)
                          have R6 := HK.out.2.2.1.setCell (p := ⟨R + 1, p, none⟩) (by show w.heap.size ≤ R + 1; omega) (.int .u64 l)
                          have R7 : R + 2 ≤ (W2.setCell ⟨R + 1, p, none⟩ (.int .u64 l)).heap.size := by rw [World.size_setCell]; exact HK.out.2.2.2
                          go_roundw
                          case rel => exact ⟨g + 1, p + 1, by omega, by go_num, rfl, rfl, by omega, R1, R2, R4, R5, R6, R7⟩
                          case measure => simp [intOf]; omega
                        · have t5 : decide (zl < l) = false := decide_eq_false hmore
                          go_wp2_with fail
                          go_quiet (fail)
                          have hpk : (wr.drewN nq).cell? ⟨w.heap.size, g, none⟩ = some (.int .u64 f) ∧ (wr.drewN nq).cell? ⟨w.heap.size + 1, g, none⟩ = some (.int .u64 l) ∧ (wr.drewN nq).cell? ⟨R + 1, p, none⟩ = some (.int .u64 zl) ∧ Hid (Own (wr.drewN nq) w.heap.size R (k + 1) (p + 1) ((a ++ [(zf, zl)]).map (·.1)) ∧ Own (wr.drewN nq) w.heap.size (R + 1) (k + 1) (p + 1) ((a ++ [(zf, zl)]).map (·.2))) ∧ Hid (Own (wr.drewN nq) w.heap.size (w.heap.size) (k + 1) (k + 1) (X.map (·.1)) ∧ Own (wr.drewN nq) w.heap.size (w.heap.size + 1) (k + 1) (k + 1) (X.map (·.2)) ∧ Below w.heap.size w (wr.drewN nq) ∧ R + 2 ≤ (wr.drewN nq).heap.size) := ⟨c1, c2, c3, HFL.out, HK.out.1, HK.out.2.1, below_drewN HK.out.2.2.1 _, HK.out.2.2.2⟩
                          clear c1 c2 c3 HFL HK
                          generalize wr.drewN nq = W at *
                          obtain ⟨c1, c2, c3, HFL, HK⟩ := hpk
                          clear nq
                          go_wp2_with fail
                          go_quiet (fail)
                          have hpk : (W.drewN nq).cell? ⟨w.heap.size, g, none⟩ = some (.int .u64 f) ∧ (W.drewN nq).cell? ⟨w.heap.size + 1, g, none⟩ = some (.int .u64 l) ∧ (W.drewN nq).cell? ⟨R + 1, p, none⟩ = some (.int .u64 zl) ∧ Hid (Own (W.drewN nq) w.heap.size R (k + 1) (p + 1) ((a ++ [(zf, zl)]).map (·.1)) ∧ Own (W.drewN nq) w.heap.size (R + 1) (k + 1) (p + 1) ((a ++ [(zf, zl)]).map (·.2))) ∧ Hid (Own (W.drewN nq) w.heap.size (w.heap.size) (k + 1) (k + 1) (X.map (·.1)) ∧ Own (W.drewN nq) w.heap.size (w.heap.size + 1) (k + 1) (k + 1) (X.map (·.2)) ∧ Below w.heap.size w (W.drewN nq) ∧ R + 2 ≤ (W.drewN nq).heap.size) := ⟨c1, c2, c3, HFL.out, HK.out.1, HK.out.2.1, below_drewN HK.out.2.2.1 _, HK.out.2.2.2⟩
                          clear c1 c2 c3 HFL HK
                          generalize W.drewN nq = W2 at *
                          obtain ⟨c1, c2, c3, HFL, HK⟩ := hpk
                          go_wp2_with fail
                          have R1 : Own W2 w.heap.size R (k + 1) (p + 1) ((sweep (X.take (g + 1))).map (·.1)) := by
                            rw [HT.out, mstep_at, if_pos (show f ≤ zl + 1 from hnear), if_neg (show ¬ (zl < l) from Int.not_lt.mpr hmore)]
                            exact HFL.out.1
                          have R2 : Own W2 w.heap.size (R + 1) (k + 1) (p + 1) ((sweep (X.take (g + 1))).map (·.2)) := by
                            rw [HT.out, mstep_at, if_pos (show f ≤ zl + 1 from hnear), if_neg (show ¬ (zl < l) from Int.not_lt.mpr hmore)]
                            exact HFL.out.2
                          go_roundw
                          case rel => exact ⟨g + 1, p + 1, by omega, by go_num, rfl, rfl, by omega, R1, R2, HK.out.1, HK.out.2.1, HK.out.2.2.1, HK.out.2.2.2⟩
                          case measure => simp [intOf]; omega
                      · have t4 : decide (f ≤ zl + 1) = false := decide_eq_false hnear
                        go_wp2_with fail
                        go_quiet (fail)
                        have hpk : (wr.drewN nq).cell? ⟨w.heap.size, g, none⟩ = some (.int .u64 f) ∧ (wr.drewN nq).cell? ⟨w.heap.size + 1, g, none⟩ = some (.int .u64 l) ∧ (wr.drewN nq).cell? ⟨R + 1, p, none⟩ = some (.int .u64 zl) ∧ Hid (Own (wr.drewN nq) w.heap.size R (k + 1) (p + 1) ((a ++ [(zf, zl)]).map (·.1)) ∧ Own (wr.drewN nq) w.heap.size (R + 1) (k + 1) (p + 1) ((a ++ [(zf, zl)]).map (·.2))) ∧ Hid (Own (wr.drewN nq) w.heap.size (w.heap.size) (k + 1) (k + 1) (X.map (·.1)) ∧ Own (wr.drewN nq) w.heap.size (w.heap.size + 1) (k + 1) (k + 1) (X.map (·.2)) ∧ Below w.heap.size w (wr.drewN nq) ∧ R + 2 ≤ (wr.drewN nq).heap.size) := ⟨c1, c2, c3, HFL.out, HK.out.1, HK.out.2.1, below_drewN HK.out.2.2.1 _, HK.out.2.2.2⟩
                        clear c1 c2 c3 HFL HK
                        generalize wr.drewN nq = W at *
                        obtain ⟨c1, c2, c3, HFL, HK⟩ := hpk
                        go_wp2_with (first | (at_builtin; refine wpList_append_fits _ rfl (.tmp 134) (.tmp 139) 22 rfl w.heap.size 23 i0 1 Try.underlying22 hi0 hz1 (R) (p + 1) (k + 1) _ (by rfl) (by exact World.ownsRow.alloc HFL.out.1 _) ⟨W.heap.size, 0, none⟩ 1 1 [.int .u64 f] (by rfl) (by rfl) (one_new _ _) (one_ok _) (by omega) ?_; intro w1 hown1 hgrow1; have hd2 := (cell_kept (h := c2) hgrow1 (by omega)); have HQ1 : Hid (Own w1 w.heap.size (R + 1) (k + 1) (p + 1) ((a ++ [(zf, zl)]).map (·.2))) := (HFL.out.2.alloc _).kept hgrow1 (by omega); have HK1 : Hid (Own w1 w.heap.size (w.heap.size) (k + 1) (k + 1) (X.map (·.1)) ∧ Own w1 w.heap.size (w.heap.size + 1) (k + 1) (k + 1) (X.map (·.2))) := ⟨(HK.out.1.alloc _).kept hgrow1 (by omega), (HK.out.2.1.alloc _).kept hgrow1 (by omega)⟩; have HB1 : Hid (Below w.heap.size w w1 ∧ w.heap.size + (R - w.heap.size + 2) ≤ w1.heap.size) := below_app HK.out.2.2.1 (by have := HK.out.2.2.2; omega) hgrow1 (by omega)) | (at_builtin; refine wpList_append_fits _ rfl (.tmp 141) (.tmp 146) 22 rfl w.heap.size 23 i0 1 Try.underlying22 hi0 hz1 (R + 1) (p + 1) (k + 1) _ (by rfl) (by exact World.ownsRow.alloc HQ1.out _) ⟨w1.heap.size, 0, none⟩ 1 1 [.int .u64 l] (by rfl) (by rfl) (one_new _ _) (one_ok _) (by omega) ?_; intro w2 hown2 hgrow2))
                        have R1 : Own w2 w.heap.size R (k + 1) (p + 1 + 1) ((sweep (X.take (g + 1))).map (·.1)) := by rw [HT.out]; rw [mstep_at, if_neg (show ¬ (f ≤ zl + 1) from Int.not_le.mpr hnear), List.map_append]; exact ((Own.snoc (A := ((a ++ [(zf, zl)]).map (·.1))) hown1).alloc _).kept hgrow2 (by omega)
                        have R2 : Own w2 w.heap.size (R + 1) (k + 1) (p + 1 + 1) ((sweep (X.take (g + 1))).map (·.2)) := by rw [HT.out]; rw [mstep_at, if_neg (show ¬ (f ≤ zl + 1) from Int.not_le.mpr hnear), List.map_append]; exact Own.snoc (A := ((a ++ [(zf, zl)]).map (·.2))) hown2
                        have R3 := below_app HB1.out.1 HB1.out.2 hgrow2 (by omega)
                        have R4 := (HK1.out.1.alloc _).kept hgrow2 (by omega)
                        have R5 := (HK1.out.2.alloc _).kept hgrow2 (by omega)
                        go_roundw
                        case rel => exact ⟨g + 1, p + 1 + 1, by omega, by go_num, rfl, rfl, by omega, R1, R2, R4, R5, R3.1, by have := R3.2; omega⟩
                        case measure => simp [intOf]; omega
                  · have hgk : g = k + 1 := by omega
                    have hg1 : decide ((g : Int) < (k : Int) + 1) = false := by simp; omega
                    rw [hgk, List.take_of_length_le (by rw [HX.out.1]; exact Nat.le_refl _)] at hF hL
                    go_wp2_with fail
                    go_ret2
                    exact ⟨R, R + 1, m, k + 1, k + 1, rfl, by rw [HXE.out]; exact hF, by rw [HXE.out]; exact hL, hbel⟩
      · have hj1 : decide ((j : Int) < k) = false := by simp; omega
        go_wp2_with fail
        clear hj1
        go_loopw [9, 10, 12] (fun pf pl t wx => ∃ i : Nat, i ≤ j ∧ t = .int .i64 i ∧ pf = .slice (some ⟨w.heap.size, 0, none⟩) i (k + 1) ∧ pl = .slice (some ⟨w.heap.size + 1, 0, none⟩) i (k + 1) ∧
            Own wx w.heap.size (w.heap.size) (k + 1) i (z1.take i) ∧ Own wx w.heap.size (w.heap.size + 1) (k + 1) i (z2.take i) ∧ Below w.heap.size w wx ∧ w.heap.size + 2 ≤ wx.heap.size) (fun _ _ t _ => j - (intOf t).toNat)
        case atStart => exact ⟨0, Nat.zero_le _, rfl, rfl, rfl, HP0.out.1, HP0.out.2, HW0.out.1, HW0.out.2⟩
        case round =>
          clear HP0 HW0
          obtain ⟨i, hi, rfl, rfl, rfl, hP, hQ, hbel, hsz⟩ := hrel
          by_cases hlti : i < j
          · have hik : i < k := by omega
            obtain ⟨bb, oo, ea1, hb1, e1⟩ := (r1.kept hbel).at (k := i) (by rw [HR.out.1]; exact hik)
            cases ea1
            obtain ⟨bb2, oo2, ea2, hb2, e2⟩ := (r2.kept hbel).at (k := i) (by rw [HR.out.2.1]; exact hik)
            cases ea2
            have d1 := e1 i (by rw [HR.out.1]; exact hik)
            have d2 := e2 i (by rw [HR.out.2.1]; exact hik)
            have ht1 : z1.take (i + 1) = z1.take i ++ [z1.getD i 0] := take_snoc1 (by rw [HR.out.1]; exact hik)
            have ht2 : z2.take (i + 1) = z2.take i ++ [z2.getD i 0] := take_snoc1 (by rw [HR.out.2.1]; exact hik)
            have HT : Hid (z1.take (i + 1) = z1.take i ++ [z1.getD i 0] ∧ z2.take (i + 1) = z2.take i ++ [z2.getD i 0]) := ⟨ht1, ht2⟩
            clear e1 e2 ht1 ht2
            generalize z1.getD i 0 = x at *
            generalize z2.getD i 0 = y at *
            have hi1 : (i : Int) < (j : Int) := by omega
            have hi2 : (i : Int) < (k : Int) := by omega
            have HQ : Hid (Own wr w.heap.size (w.heap.size + 1) (k + 1) i (z2.take i) ∧ Below w.heap.size w wr) := ⟨hQ, hbel⟩
            clear hQ hbel
            go_wp2_with (first | (at_builtin; refine wpList_append_fits _ rfl (.tmp 43) (.tmp 48) 22 rfl w.heap.size 23 i0 1 Try.underlying22 hi0 hz1 (w.heap.size) (i) (k + 1) _ (by rfl) (by exact World.ownsRow.alloc hP _) ⟨wr.heap.size, 0, none⟩ 1 1 [.int .u64 x] (by rfl) (by rfl) (one_new _ _) (one_ok _) (by omega) ?_; intro w1 hown1 hgrow1; have hd2 := (cell_kept (h := d2) hgrow1 (by omega)); have HQ1 : Hid (Own w1 w.heap.size (w.heap.size + 1) (k + 1) i (z2.take i)) := (HQ.out.1.alloc _).kept hgrow1 (by omega); have HB1 : Hid (Below w.heap.size w w1 ∧ w.heap.size + 2 ≤ w1.heap.size) := below_app HQ.out.2 hsz hgrow1 (Nat.le_refl _)) | (at_builtin; refine wpList_append_fits _ rfl (.tmp 50) (.tmp 55) 22 rfl w.heap.size 23 i0 1 Try.underlying22 hi0 hz1 (w.heap.size + 1) (i) (k + 1) _ (by rfl) (by exact World.ownsRow.alloc HQ1.out _) ⟨w1.heap.size, 0, none⟩ 1 1 [.int .u64 y] (by rfl) (by rfl) (one_new _ _) (one_ok _) (by omega) ?_; intro w2 hown2 hgrow2))
            have R1 : Own w2 w.heap.size (w.heap.size) (k + 1) (i + 1) (z1.take (i + 1)) := by rw [HT.out.1]; exact ((Own.snoc hown1).alloc _).kept hgrow2 (by omega)
            have R2 : Own w2 w.heap.size (w.heap.size + 1) (k + 1) (i + 1) (z2.take (i + 1)) := by rw [HT.out.2]; exact Own.snoc hown2
            have R3 := below_app HB1.out.1 HB1.out.2 hgrow2 (by omega)
            go_roundw
            case rel => exact ⟨i + 1, by omega, by go_num, rfl, rfl, R1, R2, R3.1, R3.2⟩
            case measure => simp [intOf]; omega
          · have hij : i = j := by omega
            subst hij
            have hi1 : decide ((i : Int) < (i : Int)) = false := by simp
            have HQ : Hid (Own wr w.heap.size (w.heap.size + 1) (k + 1) i (z2.take i) ∧ Below w.heap.size w wr) := ⟨hQ, hbel⟩
            clear hQ hbel
            go_wp2_with (first | (at_builtin; refine wpList_append_fits _ rfl (.tmp 57) (.tmp 59) 22 rfl w.heap.size 23 i0 1 Try.underlying22 hi0 hz1 (w.heap.size) (i) (k + 1) _ (by rfl) (by exact World.ownsRow.alloc hP _) ⟨wr.heap.size, 0, none⟩ 1 1 [.int .u64 n] (by rfl) (by rfl) (one_new _ _) (one_ok _) (by omega) ?_; intro w1 hown1 hgrow1; have HQ1 : Hid (Own w1 w.heap.size (w.heap.size + 1) (k + 1) i (z2.take i)) := (HQ.out.1.alloc _).kept hgrow1 (by omega); have HB1 : Hid (Below w.heap.size w w1 ∧ w.heap.size + 2 ≤ w1.heap.size) := below_app HQ.out.2 hsz hgrow1 (Nat.le_refl _)) | (at_builtin; refine wpList_append_fits _ rfl (.tmp 61) (.tmp 63) 22 rfl w.heap.size 23 i0 1 Try.underlying22 hi0 hz1 (w.heap.size + 1) (i) (k + 1) _ (by rfl) (by exact World.ownsRow.alloc HQ1.out _) ⟨w1.heap.size, 0, none⟩ 1 1 [.int .u64 n] (by rfl) (by rfl) (one_new _ _) (one_ok _) (by omega) ?_; intro w2 hown2 hgrow2))
            have R1 : Own w2 w.heap.size (w.heap.size) (k + 1) (i + 1) (z1.take i ++ [n]) := ((Own.snoc hown1).alloc _).kept hgrow2 (by omega)
            have R2 : Own w2 w.heap.size (w.heap.size + 1) (k + 1) (i + 1) (z2.take i ++ [n]) := Own.snoc hown2
            have R3 := below_app HB1.out.1 HB1.out.2 hgrow2 (by omega)
            have HS : Hid (Own w2 w.heap.size (w.heap.size) (k + 1) (i + 1) (mid z1 n i i) ∧ Own w2 w.heap.size (w.heap.size + 1) (k + 1) (i + 1) (mid z2 n i i) ∧ Below w.heap.size w w2 ∧ w.heap.size + 2 ≤ w2.heap.size) := ⟨by rw [mid_start]; exact R1, by rw [mid_start]; exact R2, R3.1, R3.2⟩
            clear R1 R2 R3 hown1 hgrow1 hown2 hgrow2 HQ1 HB1 HQ hsz hP
            go_loopw [9, 10, 13] (fun pf pl t wx => ∃ q : Nat, i ≤ q ∧ q ≤ k ∧ t = .int .i64 q ∧ pf = .slice (some ⟨w.heap.size, 0, none⟩) (q + 1) (k + 1) ∧ pl = .slice (some ⟨w.heap.size + 1, 0, none⟩) (q + 1) (k + 1) ∧
                Own wx w.heap.size (w.heap.size) (k + 1) (q + 1) (mid z1 n i q) ∧ Own wx w.heap.size (w.heap.size + 1) (k + 1) (q + 1) (mid z2 n i q) ∧ Below w.heap.size w wx ∧ w.heap.size + 2 ≤ wx.heap.size) (fun _ _ t _ => k - (intOf t).toNat)
            case atStart => exact ⟨i, Nat.le_refl _, hj, rfl, rfl, rfl, HS.out.1, HS.out.2.1, HS.out.2.2.1, HS.out.2.2.2⟩
            case round =>
              clear HS
              obtain ⟨q, hiq, hqk, rfl, rfl, rfl, hP, hQ, hbel, hsz⟩ := hrel
              by_cases hltq : q < k
              · exact absurd hltq (by omega)
              · have hqk : q = k := by omega
                rw [hqk] at hP hQ
                have hq1 : decide ((q : Int) < (k : Int)) = false := by simp; omega
                have hmz := HZ.out
                have HX : Hid ((ins n (z1.zip z2)).length = k + 1 ∧ ∀ x ∈ ins n (z1.zip z2), 0 ≤ x.2 ∧ x.2 < 18446744073709551615) := by
                  refine ⟨by rw [ins_len]; simp [HR.out.1, HR.out.2.1], fun x hx => ?_⟩
                  rcases ins_mem hx with e | e
                  · rw [e]; exact ⟨hn0, hn1⟩
                  · exact HR.out.2.2.2 _ (List.of_mem_zip e).2
                rw [← hmz.1] at hP
                rw [← hmz.2] at hQ
                clear hmz
                generalize hXe : ins n (z1.zip z2) = X at *
                have HXE : Hid (ins n (z1.zip z2) = X) := hXe
                clear hXe
                have HS : Hid (Own wr w.heap.size (w.heap.size) (k + 1) (k + 1) (X.map (·.1)) ∧ Own wr w.heap.size (w.heap.size + 1) (k + 1) (k + 1) (X.map (·.2)) ∧ Below w.heap.size w wr ∧ w.heap.size + 2 ≤ wr.heap.size) := ⟨hP, hQ, hbel, hsz⟩
                clear hP hQ hbel hsz r1 r2 HJ HA HR HZ
                rw [hqk]
                clear hqk hltq
                go_wp2_with fail
                have HS4 : Hid (Own ((wr.alloc (.cells (madeCells #[.int .u64 0] (k + 1)) 23)).alloc (.cells (madeCells #[.int .u64 0] (k + 1)) 23)) w.heap.size (w.heap.size) (k + 1) (k + 1) (X.map (·.1)) ∧
                    Own ((wr.alloc (.cells (madeCells #[.int .u64 0] (k + 1)) 23)).alloc (.cells (madeCells #[.int .u64 0] (k + 1)) 23)) w.heap.size (w.heap.size + 1) (k + 1) (k + 1) (X.map (·.2)) ∧
                    Own ((wr.alloc (.cells (madeCells #[.int .u64 0] (k + 1)) 23)).alloc (.cells (madeCells #[.int .u64 0] (k + 1)) 23)) w.heap.size wr.heap.size (k + 1) 0 [] ∧
                    Own ((wr.alloc (.cells (madeCells #[.int .u64 0] (k + 1)) 23)).alloc (.cells (madeCells #[.int .u64 0] (k + 1)) 23)) w.heap.size (wr.heap.size + 1) (k + 1) 0 [] ∧
                    Below w.heap.size w ((wr.alloc (.cells (madeCells #[.int .u64 0] (k + 1)) 23)).alloc (.cells (madeCells #[.int .u64 0] (k + 1)) 23)) ∧
                    wr.heap.size + 2 ≤ ((wr.alloc (.cells (madeCells #[.int .u64 0] (k + 1)) 23)).alloc (.cells (madeCells #[.int .u64 0] (k + 1)) 23)).heap.size) := by
                  obtain ⟨o1, o2, o3, o4⟩ := HS.out
                  refine ⟨(o1.alloc _).alloc _, (o2.alloc _).alloc _, (Own.start wr w.heap.size (k + 1) (by omega) (by unfold maxLen; omega)).alloc _, ?_, (o3.alloc (by omega) _).alloc (by simp; omega) _, by simp⟩
                  have := Own.start (wr.alloc (.cells (madeCells #[.int .u64 0] (k + 1)) 23)) w.heap.size (k + 1) (by simp; omega) (by unfold maxLen; omega)
                  simpa using this
                have hR := HS.out.2.2.2
                clear HS
                generalize ((wr.alloc (.cells (madeCells #[.int .u64 0] (k + 1)) 23)).alloc (.cells (madeCells #[.int .u64 0] (k + 1)) 23)) = W4 at HS4 ⊢
                generalize wr.heap.size = R at *
                go_loopw [14, 15, 16] (fun pf pl t wx => ∃ g m : Nat, g ≤ k + 1 ∧ t = .int .i64 g ∧ pf = .slice (some ⟨R, 0, none⟩) m (k + 1) ∧ pl = .slice (some ⟨R + 1, 0, none⟩) m (k + 1) ∧ m ≤ g ∧
                    Own wx w.heap.size R (k + 1) m ((sweep (X.take g)).map (·.1)) ∧ Own wx w.heap.size (R + 1) (k + 1) m ((sweep (X.take g)).map (·.2)) ∧
                    Own wx w.heap.size (w.heap.size) (k + 1) (k + 1) (X.map (·.1)) ∧ Own wx w.heap.size (w.heap.size + 1) (k + 1) (k + 1) (X.map (·.2)) ∧ Below w.heap.size w wx ∧ R + 2 ≤ wx.heap.size) (fun _ _ t _ => k + 1 - (intOf t).toNat)
                case atStart => exact ⟨0, 0, Nat.zero_le _, rfl, rfl, rfl, Nat.le_refl _, HS4.out.2.2.1, HS4.out.2.2.2.1, HS4.out.1, HS4.out.2.1, HS4.out.2.2.2.2.1, HS4.out.2.2.2.2.2⟩
                case round =>
                  clear HS4
                  obtain ⟨g, m, hg, rfl, rfl, rfl, hmg, hF, hL, hP, hQ, hbel, hsz⟩ := hrel
                  by_cases hltg : g < k + 1
                  · have hgX : g < X.length := by rw [HX.out.1]; exact hltg
                    have c1 := hP.cell hltg
                    have c2 := hQ.cell hltg
                    rw [getD_map1 hgX] at c1
                    rw [getD_map2 hgX] at c2
                    have HT : Hid (sweep (X.take (g + 1)) = mstep (sweep (X.take g)) X[g]) := by
                      show sweep (X.take (g + 1)) = _
                      rw [take_snoc2 hgX, sweep_snoc]
                    have HG : Hid (∀ x ∈ sweep (X.take g), 0 ≤ x.2 ∧ x.2 < 18446744073709551615) := sweep_bound (P := fun y => 0 ≤ y ∧ y < 18446744073709551615) _ (fun x hx => HX.out.2 x (List.mem_of_mem_take hx))
                    generalize X[g] = fl at *
                    obtain ⟨f, l⟩ := fl
                    have hg1 : (g : Int) < (k : Int) + 1 := by omega
                    have HK : Hid (Own wr w.heap.size (w.heap.size) (k + 1) (k + 1) (X.map (·.1)) ∧ Own wr w.heap.size (w.heap.size + 1) (k + 1) (k + 1) (X.map (·.2)) ∧ Below w.heap.size w wr ∧ R + 2 ≤ wr.heap.size) := ⟨hP, hQ, hbel, hsz⟩
                    clear hP hQ hbel
                    generalize sweep (X.take g) = acc at *
                    have hR2 : R + 2 ≤ wr.heap.size := HK.out.2.2.2
                    rcases List.eq_nil_or_concat acc with e0 | ⟨a, z, ez⟩
                    · subst e0
                      obtain rfl : m = 0 := by have := hF.len; simpa using this.symm
                      have HFL : Hid (Own wr w.heap.size R (k + 1) 0 ([] : List Int) ∧ Own wr w.heap.size (R + 1) (k + 1) 0 ([] : List Int)) := ⟨hF, hL⟩
                      clear hF hL hsz hR2
                      go_wp2_with fail
                      go_quiet (fail)
                      have hpk : (wr.drewN nq).cell? ⟨w.heap.size, g, none⟩ = some (.int .u64 f) ∧ (wr.drewN nq).cell? ⟨w.heap.size + 1, g, none⟩ = some (.int .u64 l) ∧ Hid (Own (wr.drewN nq) w.heap.size R (k + 1) (0) ([] : List Int) ∧ Own (wr.drewN nq) w.heap.size (R + 1) (k + 1) (0) ([] : List Int)) ∧ Hid (Own (wr.drewN nq) w.heap.size (w.heap.size) (k + 1) (k + 1) (X.map (·.1)) ∧ Own (wr.drewN nq) w.heap.size (w.heap.size + 1) (k + 1) (k + 1) (X.map (·.2)) ∧ Below w.heap.size w (wr.drewN nq) ∧ R + 2 ≤ (wr.drewN nq).heap.size) := ⟨c1, c2, HFL.out, HK.out.1, HK.out.2.1, below_drewN HK.out.2.2.1 _, HK.out.2.2.2⟩
                      clear c1 c2 HFL HK
                      generalize wr.drewN nq = W at *
                      obtain ⟨c1, c2, HFL, HK⟩ := hpk
                      go_wp2_with (first | (at_builtin; refine wpList_append_fits _ rfl (.tmp 134) (.tmp 139) 22 rfl w.heap.size 23 i0 1 Try.underlying22 hi0 hz1 (R) (0) (k + 1) _ (by rfl) (by exact World.ownsRow.alloc HFL.out.1 _) ⟨W.heap.size, 0, none⟩ 1 1 [.int .u64 f] (by rfl) (by rfl) (one_new _ _) (one_ok _) (by omega) ?_; intro w1 hown1 hgrow1; have hd2 := (cell_kept (h := c2) hgrow1 (by omega)); have HQ1 : Hid (Own w1 w.heap.size (R + 1) (k + 1) (0) ([] : List Int)) := (HFL.out.2.alloc _).kept hgrow1 (by omega); have HK1 : Hid (Own w1 w.heap.size (w.heap.size) (k + 1) (k + 1) (X.map (·.1)) ∧ Own w1 w.heap.size (w.heap.size + 1) (k + 1) (k + 1) (X.map (·.2))) := ⟨(HK.out.1.alloc _).kept hgrow1 (by omega), (HK.out.2.1.alloc _).kept hgrow1 (by omega)⟩; have HB1 : Hid (Below w.heap.size w w1 ∧ w.heap.size + (R - w.heap.size + 2) ≤ w1.heap.size) := below_app HK.out.2.2.1 (by have := HK.out.2.2.2; omega) hgrow1 (by omega)) | (at_builtin; refine wpList_append_fits _ rfl (.tmp 141) (.tmp 146) 22 rfl w.heap.size 23 i0 1 Try.underlying22 hi0 hz1 (R + 1) (0) (k + 1) _ (by rfl) (by exact World.ownsRow.alloc HQ1.out _) ⟨w1.heap.size, 0, none⟩ 1 1 [.int .u64 l] (by rfl) (by rfl) (one_new _ _) (one_ok _) (by omega) ?_; intro w2 hown2 hgrow2))
                      have R1 : Own w2 w.heap.size R (k + 1) (0 + 1) ((sweep (X.take (g + 1))).map (·.1)) := by rw [HT.out]; rw [show mstep [] (f, l) = [(f, l)] from rfl]; exact ((Own.snoc (A := ([] : List Int)) hown1).alloc _).kept hgrow2 (by omega)
                      have R2 : Own w2 w.heap.size (R + 1) (k + 1) (0 + 1) ((sweep (X.take (g + 1))).map (·.2)) := by rw [HT.out]; rw [show mstep [] (f, l) = [(f, l)] from rfl]; exact Own.snoc (A := ([] : List Int)) hown2
                      have R3 := below_app HB1.out.1 HB1.out.2 hgrow2 (by omega)
                      have R4 := (HK1.out.1.alloc _).kept hgrow2 (by omega)
                      have R5 := (HK1.out.2.alloc _).kept hgrow2 (by omega)
                      go_roundw
                      case rel => exact ⟨g + 1, 0 + 1, by omega, by go_num, rfl, rfl, by omega, R1, R2, R4, R5, R3.1, by have := R3.2; omega⟩
                      case measure => simp [intOf]; omega
                    · rw [List.concat_eq_append] at ez
                      subst ez
                      obtain ⟨zf, zl⟩ := z
                      obtain ⟨p, rfl⟩ : ∃ p, m = p + 1 := ⟨a.length, by have := hF.len; simpa using this.symm⟩
                      have hpl : a.length = p := by have := hF.len; simpa using this
                      have c3 := hL.cell (j := p) (by omega)
                      have hz3 : ((a ++ [(zf, zl)]).map (·.2)).getD p 0 = zl := by simp [List.getD, ← hpl]
                      rw [hz3] at c3
                      have hzb : 0 ≤ zl ∧ zl < 18446744073709551615 := HG.out (zf, zl) (by simp)
                      obtain ⟨hzb0, hzb1⟩ := hzb
                      have HPL : Hid (a.length = p) := hpl
                      clear hz3 hpl
                      have HFL : Hid (Own wr w.heap.size R (k + 1) (p + 1) ((a ++ [(zf, zl)]).map (·.1)) ∧ Own wr w.heap.size (R + 1) (k + 1) (p + 1) ((a ++ [(zf, zl)]).map (·.2))) := ⟨hF, hL⟩
                      clear hF hL hsz hR2
                      have hp1 : (0 : Int) ≤ (p : Int) := by omega
                      have hp2 : (p : Int) < (p : Int) + 1 := by omega
                      have hp4 : (0 : Int) < (p : Int) + 1 := by omega
                      have t3 : decide ((0 : Int) < (p : Int) + 1) = true := decide_eq_true hp4
                      by_cases hnear : f ≤ zl + 1
                      · have t4 : decide (f ≤ zl + 1) = true := decide_eq_true hnear
                        by_cases hmore : zl < l
                        · have t5 : decide (zl < l) = true := decide_eq_true hmore
                          go_wp2_with fail
                          go_quiet (fail)
                          have hpk : (wr.drewN nq).cell? ⟨w.heap.size, g, none⟩ = some (.int .u64 f) ∧ (wr.drewN nq).cell? ⟨w.heap.size + 1, g, none⟩ = some (.int .u64 l) ∧ (wr.drewN nq).cell? ⟨R + 1, p, none⟩ = some (.int .u64 zl) ∧ Hid (Own (wr.drewN nq) w.heap.size R (k + 1) (p + 1) ((a ++ [(zf, zl)]).map (·.1)) ∧ Own (wr.drewN nq) w.heap.size (R + 1) (k + 1) (p + 1) ((a ++ [(zf, zl)]).map (·.2))) ∧ Hid (Own (wr.drewN nq) w.heap.size (w.heap.size) (k + 1) (k + 1) (X.map (·.1)) ∧ Own (wr.drewN nq) w.heap.size (w.heap.size + 1) (k + 1) (k + 1) (X.map (·.2)) ∧ Below w.heap.size w (wr.drewN nq) ∧ R + 2 ≤ (wr.drewN nq).heap.size) := ⟨c1, c2, c3, HFL.out, HK.out.1, HK.out.2.1, below_drewN HK.out.2.2.1 _, HK.out.2.2.2⟩
                          clear c1 c2 c3 HFL HK
                          generalize wr.drewN nq = W at *
                          obtain ⟨c1, c2, c3, HFL, HK⟩ := hpk
                          clear nq
                          go_wp2_with fail
                          go_quiet (fail)
                          have hpk : (W.drewN nq).cell? ⟨w.heap.size, g, none⟩ = some (.int .u64 f) ∧ (W.drewN nq).cell? ⟨w.heap.size + 1, g, none⟩ = some (.int .u64 l) ∧ (W.drewN nq).cell? ⟨R + 1, p, none⟩ = some (.int .u64 zl) ∧ Hid (Own (W.drewN nq) w.heap.size R (k + 1) (p + 1) ((a ++ [(zf, zl)]).map (·.1)) ∧ Own (W.drewN nq) w.heap.size (R + 1) (k + 1) (p + 1) ((a ++ [(zf, zl)]).map (·.2))) ∧ Hid (Own (W.drewN nq) w.heap.size (w.heap.size) (k + 1) (k + 1) (X.map (·.1)) ∧ Own (W.drewN nq) w.heap.size (w.heap.size + 1) (k + 1) (k + 1) (X.map (·.2)) ∧ Below w.heap.size w (W.drewN nq) ∧ R + 2 ≤ (W.drewN nq).heap.size) := ⟨c1, c2, c3, HFL.out, HK.out.1, HK.out.2.1, below_drewN HK.out.2.2.1 _, HK.out.2.2.2⟩
                          clear c1 c2 c3 HFL HK
                          generalize W.drewN nq = W2 at *
                          obtain ⟨c1, c2, c3, HFL, HK⟩ := hpk
                          have cf := HFL.out.2.free p
                          go_wp2_with fail
                          have R1 : Own (W2.setCell ⟨R + 1, p, none⟩ (.int .u64 l)) w.heap.size R (k + 1) (p + 1) ((sweep (X.take (g + 1))).map (·.1)) := by
                            rw [HT.out, mstep_at, if_pos (show f ≤ zl + 1 from hnear), if_pos (show zl < l from hmore), show (a ++ [(zf, l)]).map (·.1) = (a ++ [(zf, zl)]).map (·.1) from by simp]
                            exact HFL.out.1.other (by show R ≠ R + 1; omega) _
                          have R2 : Own (W2.setCell ⟨R + 1, p, none⟩ (.int .u64 l)) w.heap.size (R + 1) (k + 1) (p + 1) ((sweep (X.take (g + 1))).map (·.2)) := by
                            rw [HT.out, mstep_at, if_pos (show f ≤ zl + 1 from hnear), if_pos (show zl < l from hmore), show (a ++ [(zf, l)]).map (·.2) = ((a ++ [(zf, zl)]).map (·.2)).set p l from by rw [← HPL.out]; simp]
                            exact HFL.out.2.stored p l
                          have R4 := HK.out.1.other (a := ⟨R + 1, p, none⟩) (by show w.heap.size ≠ R + 1; omega) (.int .u64 l)
                          have R5 := HK.out.2.1.other (a := ⟨R + 1, p, none⟩) (by show w.heap.size + 1 ≠ R + 1; omega) (.int .u64 l)
                          have R6 := HK.out.2.2.1.setCell (p := ⟨R + 1, p, none⟩) (by show w.heap.size ≤ R + 1; omega) (.int .u64 l)
                          have R7 : R + 2 ≤ (W2.setCell ⟨R + 1, p, none⟩ (.int .u64 l)).heap.size := by rw [World.size_setCell]; exact HK.out.2.2.2
                          go_roundw
                          case rel => exact ⟨g + 1, p + 1, by omega, by go_num, rfl, rfl, by omega, R1, R2, R4, R5, R6, R7⟩
                          case measure => simp [intOf]; omega
                        · have t5 : decide (zl < l) = false := decide_eq_false hmore
                          go_wp2_with fail
                          go_quiet (fail)
                          have hpk : (wr.drewN nq).cell? ⟨w.heap.size, g, none⟩ = some (.int .u64 f) ∧ (wr.drewN nq).cell? ⟨w.heap.size + 1, g, none⟩ = some (.int .u64 l) ∧ (wr.drewN nq).cell? ⟨R + 1, p, none⟩ = some (.int .u64 zl) ∧ Hid (Own (wr.drewN nq) w.heap.size R (k + 1) (p + 1) ((a ++ [(zf, zl)]).map (·.1)) ∧ Own (wr.drewN nq) w.heap.size (R + 1) (k + 1) (p + 1) ((a ++ [(zf, zl)]).map (·.2))) ∧ Hid (Own (wr.drewN nq) w.heap.size (w.heap.size) (k + 1) (k + 1) (X.map (·.1)) ∧ Own (wr.drewN nq) w.heap.size (w.heap.size + 1) (k + 1) (k + 1) (X.map (·.2)) ∧ Below w.heap.size w (wr.drewN nq) ∧ R + 2 ≤ (wr.drewN nq).heap.size) := ⟨c1, c2, c3, HFL.out, HK.out.1, HK.out.2.1, below_drewN HK.out.2.2.1 _, HK.out.2.2.2⟩
                          clear c1 c2 c3 HFL HK
                          generalize wr.drewN nq = W at *
                          obtain ⟨c1, c2, c3, HFL, HK⟩ := hpk
                          clear nq
                          go_wp2_with fail
                          go_quiet (fail)
                          have hpk : (W.drewN nq).cell? ⟨w.heap.size, g, none⟩ = some (.int .u64 f) ∧ (W.drewN nq).cell? ⟨w.heap.size + 1, g, none⟩ = some (.int .u64 l) ∧ (W.drewN nq).cell? ⟨R + 1, p, none⟩ = some (.int .u64 zl) ∧ Hid (Own (W.drewN nq) w.heap.size R (k + 1) (p + 1) ((a ++ [(zf, zl)]).map (·.1)) ∧ Own (W.drewN nq) w.heap.size (R + 1) (k + 1) (p + 1) ((a ++ [(zf, zl)]).map (·.2))) ∧ Hid (Own (W.drewN nq) w.heap.size (w.heap.size) (k + 1) (k + 1) (X.map (·.1)) ∧ Own (W.drewN nq) w.heap.size (w.heap.size + 1) (k + 1) (k + 1) (X.map (·.2)) ∧ Below w.heap.size w (W.drewN nq) ∧ R + 2 ≤ (W.drewN nq).heap.size) := ⟨c1, c2, c3, HFL.out, HK.out.1, HK.out.2.1, below_drewN HK.out.2.2.1 _, HK.out.2.2.2⟩
                          clear c1 c2 c3 HFL HK
                          generalize W.drewN nq = W2 at *
                          obtain ⟨c1, c2, c3, HFL, HK⟩ := hpk
                          go_wp2_with fail
                          have R1 : Own W2 w.heap.size R (k + 1) (p + 1) ((sweep (X.take (g + 1))).map (·.1)) := by
                            rw [HT.out, mstep_at, if_pos (show f ≤ zl + 1 from hnear), if_neg (show ¬ (zl < l) from Int.not_lt.mpr hmore)]
                            exact HFL.out.1
                          have R2 : Own W2 w.heap.size (R + 1) (k + 1) (p + 1) ((sweep (X.take (g + 1))).map (·.2)) := by
                            rw [HT.out, mstep_at, if_pos (show f ≤ zl + 1 from hnear), if_neg (show ¬ (zl < l) from Int.not_lt.mpr hmore)]
                            exact HFL.out.2
                          go_roundw
                          case rel => exact ⟨g + 1, p + 1, by omega, by go_num, rfl, rfl, by omega, R1, R2, HK.out.1, HK.out.2.1, HK.out.2.2.1, HK.out.2.2.2⟩
                          case measure => simp [intOf]; omega
                      · have t4 : decide (f ≤ zl + 1) = false := decide_eq_false hnear
                        go_wp2_with fail
                        go_quiet (fail)
                        have hpk : (wr.drewN nq).cell? ⟨w.heap.size, g, none⟩ = some (.int .u64 f) ∧ (wr.drewN nq).cell? ⟨w.heap.size + 1, g, none⟩ = some (.int .u64 l) ∧ (wr.drewN nq).cell? ⟨R + 1, p, none⟩ = some (.int .u64 zl) ∧ Hid (Own (wr.drewN nq) w.heap.size R (k + 1) (p + 1) ((a ++ [(zf, zl)]).map (·.1)) ∧ Own (wr.drewN nq) w.heap.size (R + 1) (k + 1) (p + 1) ((a ++ [(zf, zl)]).map (·.2))) ∧ Hid (Own (wr.drewN nq) w.heap.size (w.heap.size) (k + 1) (k + 1) (X.map (·.1)) ∧ Own (wr.drewN nq) w.heap.size (w.heap.size + 1) (k + 1) (k + 1) (X.map (·.2)) ∧ Below w.heap.size w (wr.drewN nq) ∧ R + 2 ≤ (wr.drewN nq).heap.size) := ⟨c1, c2, c3, HFL.out, HK.out.1, HK.out.2.1, below_drewN HK.out.2.2.1 _, HK.out.2.2.2⟩
                        clear c1 c2 c3 HFL HK
                        generalize wr.drewN nq = W at *
                        obtain ⟨c1, c2, c3, HFL, HK⟩ := hpk
                        go_wp2_with (first | (at_builtin; refine wpList_append_fits _ rfl (.tmp 134) (.tmp 139) 22 rfl w.heap.size 23 i0 1 Try.underlying22 hi0 hz1 (R) (p + 1) (k + 1) _ (by rfl) (by exact World.ownsRow.alloc HFL.out.1 _) ⟨W.heap.size, 0, none⟩ 1 1 [.int .u64 f] (by rfl) (by rfl) (one_new _ _) (one_ok _) (by omega) ?_; intro w1 hown1 hgrow1; have hd2 := (cell_kept (h := c2) hgrow1 (by omega)); have HQ1 : Hid (Own w1 w.heap.size (R + 1) (k + 1) (p + 1) ((a ++ [(zf, zl)]).map (·.2))) := (HFL.out.2.alloc _).kept hgrow1 (by omega); have HK1 : Hid (Own w1 w.heap.size (w.heap.size) (k + 1) (k + 1) (X.map (·.1)) ∧ Own w1 w.heap.size (w.heap.size + 1) (k + 1) (k + 1) (X.map (·.2))) := ⟨(HK.out.1.alloc _).kept hgrow1 (by omega), (HK.out.2.1.alloc _).kept hgrow1 (by omega)⟩; have HB1 : Hid (Below w.heap.size w w1 ∧ w.heap.size + (R - w.heap.size + 2) ≤ w1.heap.size) := below_app HK.out.2.2.1 (by have := HK.out.2.2.2; omega) hgrow1 (by omega)) | (at_builtin; refine wpList_append_fits _ rfl (.tmp 141) (.tmp 146) 22 rfl w.heap.size 23 i0 1 Try.underlying22 hi0 hz1 (R + 1) (p + 1) (k + 1) _ (by rfl) (by exact World.ownsRow.alloc HQ1.out _) ⟨w1.heap.size, 0, none⟩ 1 1 [.int .u64 l] (by rfl) (by rfl) (one_new _ _) (one_ok _) (by omega) ?_; intro w2 hown2 hgrow2))
                        have R1 : Own w2 w.heap.size R (k + 1) (p + 1 + 1) ((sweep (X.take (g + 1))).map (·.1)) := by rw [HT.out]; rw [mstep_at, if_neg (show ¬ (f ≤ zl + 1) from Int.not_le.mpr hnear), List.map_append]; exact ((Own.snoc (A := ((a ++ [(zf, zl)]).map (·.1))) hown1).alloc _).kept hgrow2 (by omega)
                        have R2 : Own w2 w.heap.size (R + 1) (k + 1) (p + 1 + 1) ((sweep (X.take (g + 1))).map (·.2)) := by rw [HT.out]; rw [mstep_at, if_neg (show ¬ (f ≤ zl + 1) from Int.not_le.mpr hnear), List.map_append]; exact Own.snoc (A := ((a ++ [(zf, zl)]).map (·.2))) hown2
                        have R3 := below_app HB1.out.1 HB1.out.2 hgrow2 (by omega)
                        have R4 := (HK1.out.1.alloc _).kept hgrow2 (by omega)
                        have R5 := (HK1.out.2.alloc _).kept hgrow2 (by omega)
                        go_roundw
                        case rel => exact ⟨g + 1, p + 1 + 1, by omega, by go_num, rfl, rfl, by omega, R1, R2, R4, R5, R3.1, by have := R3.2; omega⟩
                        case measure => simp [intOf]; omega
                  · have hgk : g = k + 1 := by omega
                    have hg1 : decide ((g : Int) < (k : Int) + 1) = false := by simp; omega
                    rw [hgk, List.take_of_length_le (by rw [HX.out.1]; exact Nat.le_refl _)] at hF hL
                    go_wp2_with fail
                    go_ret2
                    exact ⟨R, R + 1, m, k + 1, k + 1, rfl, by rw [HXE.out]; exact hF, by rw [HXE.out]; exact hL, hbel⟩

end Go.Proofs.Qxb6630740a

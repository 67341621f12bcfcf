import Derived.Test.Qxb6630740aModel
import Derived.Test.Qxb6630740aCopy
import Derived.WalkSpells
/- FnAddMatchesMergeModel: the walk. -/
namespace Go.Proofs.Qxb6630740a
open Go.RowKit

theorem RowIn.of_out {w : World} {b n : Nat} {zs : List Int} (h : w.rowIs b 23 n (outAt zs n)) (hn : zs.length = n) : RowIn w w.heap.size (some ⟨b, 0, none⟩) zs := fun _ =>
  ⟨b, 0, rfl, h.lt, fun i hi => by rw [Nat.zero_add, h.cell (by omega)]; unfold outAt; rw [if_pos (by omega)]⟩

theorem canon_of_ok {z1 z2 : List Int} {k : Nat} (l1 : z1.length = k) (l2 : z2.length = k) (hok : OkTo z1 z2 k) (b1 : ∀ x ∈ z1, 0 ≤ x ∧ x ≤ 18446744073709551615) (b2 : ∀ x ∈ z2, 0 ≤ x ∧ x ≤ 18446744073709551615) : CanonFrom (-1) (z1.zip z2) := by
  suffices H : ∀ (d j : Nat) (lo : Int), k - j = d → j ≤ k → (∀ _ : j < k, lo < z1.getD j 0) → CanonFrom lo ((z1.zip z2).drop j) by
    have := H k 0 (-1) (by omega) (by omega) (fun h => by
      have hm : z1.getD 0 0 ∈ z1 := by rw [show z1.getD 0 0 = z1[0]'(by omega) from by simp [List.getD, show 0 < z1.length by omega]]; exact List.getElem_mem _
      have := b1 _ hm
      omega)
    simpa using this
  intro d
  induction d with
  | zero =>
    intro j lo hd hj _
    rw [List.drop_eq_nil_of_le (by simp; omega)]
    trivial
  | succ d ih =>
    intro j lo hd hj hlo
    have hjl : j < (z1.zip z2).length := by simp; omega
    rw [List.drop_eq_getElem_cons hjl]
    have e1 : ((z1.zip z2)[j]) = (z1.getD j 0, z2.getD j 0) := by
      rw [List.getElem_zip]; simp [List.getD, show j < z1.length by omega, show j < z2.length by omega]
    rw [e1]
    obtain ⟨o1, o2, o3⟩ := hok j (by omega)
    have hm : z2.getD j 0 ∈ z2 := by rw [show z2.getD j 0 = z2[j]'(by omega) from by simp [List.getD, show j < z2.length by omega]]; exact List.getElem_mem _
    have hb := b2 _ hm
    refine ⟨hlo (by omega), o1, by unfold maxU; omega, ih (j + 1) _ (by omega) (by omega) (fun h => ?_)⟩
    have := (hok (j + 1) h).2.2 (by omega)
    rw [Nat.add_sub_cancel] at this
    exact this

theorem last_bound {z1 z2 : List Int} {k : Nat} (l2 : z2.length = k) (hok : OkTo z1 z2 k) (b2 : ∀ x ∈ z2, 0 ≤ x ∧ x ≤ 18446744073709551615) : ∀ x ∈ z2, 0 ≤ x ∧ x < 18446744073709551615 := by
  intro x hx
  obtain ⟨j, hj, rfl⟩ := List.mem_iff_getElem.1 hx
  have h1 := b2 _ hx
  have h2 := (hok j (by omega)).2.1
  rw [show z2.getD j 0 = z2[j] from by simp [List.getD, hj]] at h2
  omega

set_option maxRecDepth 100000 in
set_option maxHeartbeats 3200000 in
theorem match_mid (src : ByteArray) (a1 a2 : Option Addr) (k c1 c2 : Nat) (z1 z2 : List Int) (n : Int) (w : World) (l1 : z1.length = k) (l2 : z2.length = k) (r1 : RowIn w w.heap.size a1 z1) (r2 : RowIn w w.heap.size a2 z2)
    (hs : src.size + 8 * k + 8 * k ≤ 1048576) (hn0 : 0 ≤ n) (hn1 : n < 18446744073709551615) (b1 : ∀ x ∈ z1, 0 ≤ x ∧ x ≤ 18446744073709551615) (b2 : ∀ x ∈ z2, 0 ≤ x ∧ x ≤ 18446744073709551615) :
    Calls Try.prog 3 #[.string src, .slice a1 k c1, .slice a2 k c2, .int .u64 n] w fun e w' => e = .returned (.bool true) ∧ Below w.heap.size w w' := by
  obtain ⟨i0, hi0, hz0, hz1, hz2⟩ := info_parts info23
  have hmk : ∀ w : World, (Instr.makeSlice 22 (.int .i64 (k : Int)) (.int .i64 (k : Int))).run Try.prog w = .ok (.slice (some ⟨w.heap.size, 0, none⟩) k k) (w.alloc (.cells (madeCells #[.int .u64 0] k) 23)) := fun w => by
    have hr := run_make (P := Try.prog) w 22 23 i0 _ Try.underlying22 hi0 hz0 .i64 .i64 (k : Int) (k : Int) (by omega) (by omega) (by rw [hz2]; omega) (by omega)
    rw [hz1] at hr
    simpa [Value.cells] using hr
  have hnil : ∀ (W : World) (a : Option Addr) (n c : Nat), (binOp .neq 22 (.slice a n c) (.slice none 0 0)).run Try.prog W = .ok (.bool (!a.isNone)) W := fun W a n c => run_neq_slice_nil_any W 22 23 a n c 0 0 Try.underlying22
  have hs0 : (src.size : Int) ≤ 1048576 := by omega
  have hk0 : (k : Int) ≤ 131072 := by omega
  have hs1 : (src.size : Int) + 8 * (k : Int) + 8 * (k : Int) ≤ 1048576 := by omega
  have tn : (n == 18446744073709551615) = false := by rw [beq_eq_false_iff_ne]; omega
  have HR : Hid (z1.length = k ∧ z2.length = k ∧ (∀ x ∈ z1, 0 ≤ x ∧ x ≤ 18446744073709551615) ∧ ∀ x ∈ z2, 0 ≤ x ∧ x ≤ 18446744073709551615) := ⟨l1, l2, b1, b2⟩
  have HR1 : Hid (RowIn w w.heap.size a1 z1 ∧ RowIn w w.heap.size a2 z2) := ⟨r1, r2⟩
  clear l1 l2 b1 b2 r1 r2
  go_enter Try.func3, Try.ntmps3
  go_wp2_with fail
  refine (bytesM_yes src a1 a2 k c1 k c2 n w (by omega)).mono ?_
  rintro e w ⟨rfl, rfl⟩
  go_wp2_with fail
  refine (canonical_calls a1 a2 k c1 c2 z1 z2 w.heap.size w HR.out.1 HR.out.2.1 HR1.out.1 HR1.out.2 (by omega) HR.out.2.2.1 HR.out.2.2.2).mono ?_
  rintro e w1 ⟨rfl | ⟨rfl, hok⟩, d, rfl⟩
  · go_wp2_with fail
    go_ret
    exact ⟨rfl, below_drewN (Below.refl _ _) d⟩
  · have hcan := canon_of_ok HR.out.1 HR.out.2.1 hok HR.out.2.2.1 HR.out.2.2.2
    have hsw := sweep_ins hcan (show (-1 : Int) < n by omega)
    have HC : Hid (CanonFrom (-1) (z1.zip z2) ∧ sweep (ins n (z1.zip z2)) = addIv n (z1.zip z2) ∧ (z1.zip z2).length ≤ 1048576 ∧ (∀ x ∈ z2, 0 ≤ x ∧ x < 18446744073709551615) ∧ (addIv n (z1.zip z2)).length ≤ 1048577) := by
      refine ⟨hcan, hsw, by rw [List.length_zip, HR.out.1, HR.out.2.1]; omega, last_bound HR.out.2.1 hok HR.out.2.2.2, ?_⟩
      rw [← hsw]
      have h1 := sweep_len (ins n (z1.zip z2))
      rw [ins_len, List.length_zip, HR.out.1, HR.out.2.1] at h1
      omega
    have HW : Hid (RowIn (w.drewN d) (w.drewN d).heap.size a1 z1 ∧ RowIn (w.drewN d) (w.drewN d).heap.size a2 z2 ∧ Below w.heap.size w (w.drewN d)) := ⟨HR1.out.1, HR1.out.2, below_drewN (Below.refl _ _) d⟩
    clear hcan hsw hok HR1
    generalize w.drewN d = W at *
    cases a1 with
    | none =>
      cases a2 with
      | none =>
        have HV : Hid (RowIn W W.heap.size none z1 ∧ RowIn W W.heap.size none z2 ∧ Below w.heap.size w W) := HW.out
        go_wp2_with fail
        refine (newSet_calls src none none k c1 c2 z1 z2 (W) HR.out.1 HR.out.2.1 HV.out.1 HV.out.2.1 (by omega)).mono ?_
        rintro e w1 ⟨rfl, hset, hbel⟩
        have HS : Hid (SetAt w1 (W).heap.size ((W).heap.size + 1) src (W).heap.size k (z1.zip z2) ∧ Below (W).heap.size (W) w1) := ⟨hset, hbel⟩
        clear hset hbel
        generalize (W) = V at *
        go_wp2_with fail
        refine (add_calls _ _ src _ k (z1.zip z2) n w1 HS.out.1 HC.out.1 hn0 (by unfold maxU; exact hn1) HC.out.2.2.1).mono ?_
        rintro e w2 ⟨rfl, ⟨g, cap, hset⟩, hbel⟩
        have HS2 : Hid (SetAt w2 V.heap.size (V.heap.size + 1) src g cap (addIv n (z1.zip z2)) ∧ Below V.heap.size V w2) := ⟨hset, HS.out.2.trans hbel⟩
        clear hset hbel HS
        go_wp2_with fail
        refine (firsts_calls _ _ src g cap _ w2 HS2.out.1 HC.out.2.2.2.2).mono ?_
        rintro e w3 ⟨rfl, hrow, hsz, hbel⟩
        have HS3 : Hid (SetAt w3 V.heap.size (V.heap.size + 1) src g cap (addIv n (z1.zip z2)) ∧ Below V.heap.size V w3 ∧ w3.rowIs w2.heap.size 23 (addIv n (z1.zip z2)).length (outAt ((addIv n (z1.zip z2)).map (·.1)) (addIv n (z1.zip z2)).length)) :=
          ⟨HS2.out.1.kept hbel HS2.out.1.lt.1 HS2.out.1.lt.2, HS2.out.2.trans (hbel.mono HS2.out.2.size), hrow⟩
        clear hrow hsz hbel HS2
        generalize w2.heap.size = g1 at *
        go_wp2_with fail
        refine (lasts_calls _ _ src g cap _ w3 HS3.out.1 HC.out.2.2.2.2).mono ?_
        rintro e w4 ⟨rfl, hrow, hsz, hbel⟩
        have HS4 : Hid (SetAt w4 V.heap.size (V.heap.size + 1) src g cap (addIv n (z1.zip z2)) ∧ Below V.heap.size V w4 ∧ w4.rowIs g1 23 (addIv n (z1.zip z2)).length (outAt ((addIv n (z1.zip z2)).map (·.1)) (addIv n (z1.zip z2)).length) ∧
            w4.rowIs w3.heap.size 23 (addIv n (z1.zip z2)).length (outAt ((addIv n (z1.zip z2)).map (·.2)) (addIv n (z1.zip z2)).length)) :=
          ⟨HS3.out.1.kept hbel HS3.out.1.lt.1 HS3.out.1.lt.2, HS3.out.2.1.trans (hbel.mono HS3.out.2.1.size), HS3.out.2.2.of_block (hbel.block _ HS3.out.2.2.lt), hrow⟩
        clear hrow hsz hbel HS3
        generalize w3.heap.size = g2 at *
        go_wp2_with fail
        refine (model_calls none none k c1 c2 z1 z2 n w4 HR.out.1 HR.out.2.1 ((HV.out.1.kept HS4.out.2.1).mono HS4.out.2.1.size) ((HV.out.2.1.kept HS4.out.2.1).mono HS4.out.2.1.size) (by omega) hn0 hn1 HR.out.2.2.1 HC.out.2.2.2.1).mono ?_
        rintro e w5 ⟨p, q, m, cf, cl, rfl, hp, hq, hbel⟩
        rw [HC.out.2.1] at hp hq
        obtain rfl : (addIv n (z1.zip z2)).length = m := by have := hp.len; simpa using this
        have hpr := hp.rowIn
        have hqr := hq.rowIn
        have HS5 : Hid (SetAt w5 V.heap.size (V.heap.size + 1) src g cap (addIv n (z1.zip z2)) ∧ Below V.heap.size V w5) := ⟨HS4.out.1.kept hbel HS4.out.1.lt.1 HS4.out.1.lt.2, HS4.out.2.1.trans (hbel.mono HS4.out.2.1.size)⟩
        have HE : Hid (RowIn w5 w5.heap.size (some ⟨g1, 0, none⟩) ((addIv n (z1.zip z2)).map (·.1)) ∧ RowIn w5 w5.heap.size (some ⟨g2, 0, none⟩) ((addIv n (z1.zip z2)).map (·.2)) ∧
            RowIn w5 w5.heap.size (some ⟨p, 0, none⟩) ((addIv n (z1.zip z2)).map (·.1)) ∧ RowIn w5 w5.heap.size (some ⟨q, 0, none⟩) ((addIv n (z1.zip z2)).map (·.2))) :=
          ⟨RowIn.of_out (HS4.out.2.2.1.of_block (hbel.block _ HS4.out.2.2.1.lt)) (by simp), RowIn.of_out (HS4.out.2.2.2.of_block (hbel.block _ HS4.out.2.2.2.lt)) (by simp), hpr, hqr⟩
        clear hp hq hpr hqr hbel HS4
        go_wp2_with fail
        refine (source_calls _ _ src g cap _ w5 HS5.out.1).mono ?_
        rintro e w5 ⟨rfl, rfl⟩
        go_wp2_with fail
        refine (equal_calls _ _ _ _ _ ((addIv n (z1.zip z2)).map (·.1)) w5.heap.size w5 (by simp) HE.out.1 HE.out.2.2.1 HC.out.2.2.2.2).mono ?_
        rintro e w6 ⟨rfl, d6, rfl⟩
        go_wp2_with fail
        refine (equal_calls _ _ _ _ _ ((addIv n (z1.zip z2)).map (fun x : Int × Int => x.2)) w5.heap.size (w5.drewN d6) (by simp) (HE.out.2.1.kept (below_drewN (Below.refl _ _) d6)) (HE.out.2.2.2.kept (below_drewN (Below.refl _ _) d6)) HC.out.2.2.2.2).mono ?_
        rintro e w7 ⟨rfl, d7, rfl⟩
        go_wp2_with fail
        go_ret
        exact ⟨rfl, below_drewN (HV.out.2.2.trans (HS5.out.2.mono HV.out.2.2.size)) (d6 + d7)⟩
      | some x2 =>
        have hc2 := copy_run W (some x2) k c2 z2 HR.out.2.1 HW.out.2.1
        have HV : Hid (RowIn (copied W z2) (copied W z2).heap.size none z1 ∧ RowIn (copied W z2) (copied W z2).heap.size (some ⟨W.heap.size, 0, none⟩) z2 ∧ Below w.heap.size w (copied W z2)) := ⟨copied_kept HW.out.1, copied_row W z2, copied_below _ _ _ HW.out.2.2⟩
        go_wp2_with fail
        refine (newSet_calls src none (some ⟨W.heap.size, 0, none⟩) k c1 k z1 z2 (copied W z2) HR.out.1 HR.out.2.1 HV.out.1 HV.out.2.1 (by omega)).mono ?_
        rintro e w1 ⟨rfl, hset, hbel⟩
        have HS : Hid (SetAt w1 (copied W z2).heap.size ((copied W z2).heap.size + 1) src (copied W z2).heap.size k (z1.zip z2) ∧ Below (copied W z2).heap.size (copied W z2) w1) := ⟨hset, hbel⟩
        clear hset hbel
        generalize (copied W z2) = V at *
        go_wp2_with fail
        refine (add_calls _ _ src _ k (z1.zip z2) n w1 HS.out.1 HC.out.1 hn0 (by unfold maxU; exact hn1) HC.out.2.2.1).mono ?_
        rintro e w2 ⟨rfl, ⟨g, cap, hset⟩, hbel⟩
        have HS2 : Hid (SetAt w2 V.heap.size (V.heap.size + 1) src g cap (addIv n (z1.zip z2)) ∧ Below V.heap.size V w2) := ⟨hset, HS.out.2.trans hbel⟩
        clear hset hbel HS
        go_wp2_with fail
        refine (firsts_calls _ _ src g cap _ w2 HS2.out.1 HC.out.2.2.2.2).mono ?_
        rintro e w3 ⟨rfl, hrow, hsz, hbel⟩
        have HS3 : Hid (SetAt w3 V.heap.size (V.heap.size + 1) src g cap (addIv n (z1.zip z2)) ∧ Below V.heap.size V w3 ∧ w3.rowIs w2.heap.size 23 (addIv n (z1.zip z2)).length (outAt ((addIv n (z1.zip z2)).map (·.1)) (addIv n (z1.zip z2)).length)) :=
          ⟨HS2.out.1.kept hbel HS2.out.1.lt.1 HS2.out.1.lt.2, HS2.out.2.trans (hbel.mono HS2.out.2.size), hrow⟩
        clear hrow hsz hbel HS2
        generalize w2.heap.size = g1 at *
        go_wp2_with fail
        refine (lasts_calls _ _ src g cap _ w3 HS3.out.1 HC.out.2.2.2.2).mono ?_
        rintro e w4 ⟨rfl, hrow, hsz, hbel⟩
        have HS4 : Hid (SetAt w4 V.heap.size (V.heap.size + 1) src g cap (addIv n (z1.zip z2)) ∧ Below V.heap.size V w4 ∧ w4.rowIs g1 23 (addIv n (z1.zip z2)).length (outAt ((addIv n (z1.zip z2)).map (·.1)) (addIv n (z1.zip z2)).length) ∧
            w4.rowIs w3.heap.size 23 (addIv n (z1.zip z2)).length (outAt ((addIv n (z1.zip z2)).map (·.2)) (addIv n (z1.zip z2)).length)) :=
          ⟨HS3.out.1.kept hbel HS3.out.1.lt.1 HS3.out.1.lt.2, HS3.out.2.1.trans (hbel.mono HS3.out.2.1.size), HS3.out.2.2.of_block (hbel.block _ HS3.out.2.2.lt), hrow⟩
        clear hrow hsz hbel HS3
        generalize w3.heap.size = g2 at *
        go_wp2_with fail
        refine (model_calls none (some ⟨W.heap.size, 0, none⟩) k c1 k z1 z2 n w4 HR.out.1 HR.out.2.1 ((HV.out.1.kept HS4.out.2.1).mono HS4.out.2.1.size) ((HV.out.2.1.kept HS4.out.2.1).mono HS4.out.2.1.size) (by omega) hn0 hn1 HR.out.2.2.1 HC.out.2.2.2.1).mono ?_
        rintro e w5 ⟨p, q, m, cf, cl, rfl, hp, hq, hbel⟩
        rw [HC.out.2.1] at hp hq
        obtain rfl : (addIv n (z1.zip z2)).length = m := by have := hp.len; simpa using this
        have hpr := hp.rowIn
        have hqr := hq.rowIn
        have HS5 : Hid (SetAt w5 V.heap.size (V.heap.size + 1) src g cap (addIv n (z1.zip z2)) ∧ Below V.heap.size V w5) := ⟨HS4.out.1.kept hbel HS4.out.1.lt.1 HS4.out.1.lt.2, HS4.out.2.1.trans (hbel.mono HS4.out.2.1.size)⟩
        have HE : Hid (RowIn w5 w5.heap.size (some ⟨g1, 0, none⟩) ((addIv n (z1.zip z2)).map (·.1)) ∧ RowIn w5 w5.heap.size (some ⟨g2, 0, none⟩) ((addIv n (z1.zip z2)).map (·.2)) ∧
            RowIn w5 w5.heap.size (some ⟨p, 0, none⟩) ((addIv n (z1.zip z2)).map (·.1)) ∧ RowIn w5 w5.heap.size (some ⟨q, 0, none⟩) ((addIv n (z1.zip z2)).map (·.2))) :=
          ⟨RowIn.of_out (HS4.out.2.2.1.of_block (hbel.block _ HS4.out.2.2.1.lt)) (by simp), RowIn.of_out (HS4.out.2.2.2.of_block (hbel.block _ HS4.out.2.2.2.lt)) (by simp), hpr, hqr⟩
        clear hp hq hpr hqr hbel HS4
        go_wp2_with fail
        refine (source_calls _ _ src g cap _ w5 HS5.out.1).mono ?_
        rintro e w5 ⟨rfl, rfl⟩
        go_wp2_with fail
        refine (equal_calls _ _ _ _ _ ((addIv n (z1.zip z2)).map (·.1)) w5.heap.size w5 (by simp) HE.out.1 HE.out.2.2.1 HC.out.2.2.2.2).mono ?_
        rintro e w6 ⟨rfl, d6, rfl⟩
        go_wp2_with fail
        refine (equal_calls _ _ _ _ _ ((addIv n (z1.zip z2)).map (fun x : Int × Int => x.2)) w5.heap.size (w5.drewN d6) (by simp) (HE.out.2.1.kept (below_drewN (Below.refl _ _) d6)) (HE.out.2.2.2.kept (below_drewN (Below.refl _ _) d6)) HC.out.2.2.2.2).mono ?_
        rintro e w7 ⟨rfl, d7, rfl⟩
        go_wp2_with fail
        go_ret
        exact ⟨rfl, below_drewN (HV.out.2.2.trans (HS5.out.2.mono HV.out.2.2.size)) (d6 + d7)⟩
    | some x1 =>
      have hc1 := copy_run W (some x1) k c1 z1 HR.out.1 HW.out.1
      cases a2 with
      | none =>
        have HV : Hid (RowIn (copied W z1) (copied W z1).heap.size (some ⟨W.heap.size, 0, none⟩) z1 ∧ RowIn (copied W z1) (copied W z1).heap.size none z2 ∧ Below w.heap.size w (copied W z1)) := ⟨copied_row W z1, copied_kept HW.out.2.1, copied_below _ _ _ HW.out.2.2⟩
        go_wp2_with fail
        refine (newSet_calls src (some ⟨W.heap.size, 0, none⟩) none k k c2 z1 z2 (copied W z1) HR.out.1 HR.out.2.1 HV.out.1 HV.out.2.1 (by omega)).mono ?_
        rintro e w1 ⟨rfl, hset, hbel⟩
        have HS : Hid (SetAt w1 (copied W z1).heap.size ((copied W z1).heap.size + 1) src (copied W z1).heap.size k (z1.zip z2) ∧ Below (copied W z1).heap.size (copied W z1) w1) := ⟨hset, hbel⟩
        clear hset hbel
        generalize (copied W z1) = V at *
        go_wp2_with fail
        refine (add_calls _ _ src _ k (z1.zip z2) n w1 HS.out.1 HC.out.1 hn0 (by unfold maxU; exact hn1) HC.out.2.2.1).mono ?_
        rintro e w2 ⟨rfl, ⟨g, cap, hset⟩, hbel⟩
        have HS2 : Hid (SetAt w2 V.heap.size (V.heap.size + 1) src g cap (addIv n (z1.zip z2)) ∧ Below V.heap.size V w2) := ⟨hset, HS.out.2.trans hbel⟩
        clear hset hbel HS
        go_wp2_with fail
        refine (firsts_calls _ _ src g cap _ w2 HS2.out.1 HC.out.2.2.2.2).mono ?_
        rintro e w3 ⟨rfl, hrow, hsz, hbel⟩
        have HS3 : Hid (SetAt w3 V.heap.size (V.heap.size + 1) src g cap (addIv n (z1.zip z2)) ∧ Below V.heap.size V w3 ∧ w3.rowIs w2.heap.size 23 (addIv n (z1.zip z2)).length (outAt ((addIv n (z1.zip z2)).map (·.1)) (addIv n (z1.zip z2)).length)) :=
          ⟨HS2.out.1.kept hbel HS2.out.1.lt.1 HS2.out.1.lt.2, HS2.out.2.trans (hbel.mono HS2.out.2.size), hrow⟩
        clear hrow hsz hbel HS2
        generalize w2.heap.size = g1 at *
        go_wp2_with fail
        refine (lasts_calls _ _ src g cap _ w3 HS3.out.1 HC.out.2.2.2.2).mono ?_
        rintro e w4 ⟨rfl, hrow, hsz, hbel⟩
        have HS4 : Hid (SetAt w4 V.heap.size (V.heap.size + 1) src g cap (addIv n (z1.zip z2)) ∧ Below V.heap.size V w4 ∧ w4.rowIs g1 23 (addIv n (z1.zip z2)).length (outAt ((addIv n (z1.zip z2)).map (·.1)) (addIv n (z1.zip z2)).length) ∧
            w4.rowIs w3.heap.size 23 (addIv n (z1.zip z2)).length (outAt ((addIv n (z1.zip z2)).map (·.2)) (addIv n (z1.zip z2)).length)) :=
          ⟨HS3.out.1.kept hbel HS3.out.1.lt.1 HS3.out.1.lt.2, HS3.out.2.1.trans (hbel.mono HS3.out.2.1.size), HS3.out.2.2.of_block (hbel.block _ HS3.out.2.2.lt), hrow⟩
        clear hrow hsz hbel HS3
        generalize w3.heap.size = g2 at *
        go_wp2_with fail
        refine (model_calls (some ⟨W.heap.size, 0, none⟩) none k k c2 z1 z2 n w4 HR.out.1 HR.out.2.1 ((HV.out.1.kept HS4.out.2.1).mono HS4.out.2.1.size) ((HV.out.2.1.kept HS4.out.2.1).mono HS4.out.2.1.size) (by omega) hn0 hn1 HR.out.2.2.1 HC.out.2.2.2.1).mono ?_
        rintro e w5 ⟨p, q, m, cf, cl, rfl, hp, hq, hbel⟩
        rw [HC.out.2.1] at hp hq
        obtain rfl : (addIv n (z1.zip z2)).length = m := by have := hp.len; simpa using this
        have hpr := hp.rowIn
        have hqr := hq.rowIn
        have HS5 : Hid (SetAt w5 V.heap.size (V.heap.size + 1) src g cap (addIv n (z1.zip z2)) ∧ Below V.heap.size V w5) := ⟨HS4.out.1.kept hbel HS4.out.1.lt.1 HS4.out.1.lt.2, HS4.out.2.1.trans (hbel.mono HS4.out.2.1.size)⟩
        have HE : Hid (RowIn w5 w5.heap.size (some ⟨g1, 0, none⟩) ((addIv n (z1.zip z2)).map (·.1)) ∧ RowIn w5 w5.heap.size (some ⟨g2, 0, none⟩) ((addIv n (z1.zip z2)).map (·.2)) ∧
            RowIn w5 w5.heap.size (some ⟨p, 0, none⟩) ((addIv n (z1.zip z2)).map (·.1)) ∧ RowIn w5 w5.heap.size (some ⟨q, 0, none⟩) ((addIv n (z1.zip z2)).map (·.2))) :=
          ⟨RowIn.of_out (HS4.out.2.2.1.of_block (hbel.block _ HS4.out.2.2.1.lt)) (by simp), RowIn.of_out (HS4.out.2.2.2.of_block (hbel.block _ HS4.out.2.2.2.lt)) (by simp), hpr, hqr⟩
        clear hp hq hpr hqr hbel HS4
        go_wp2_with fail
        refine (source_calls _ _ src g cap _ w5 HS5.out.1).mono ?_
        rintro e w5 ⟨rfl, rfl⟩
        go_wp2_with fail
        refine (equal_calls _ _ _ _ _ ((addIv n (z1.zip z2)).map (·.1)) w5.heap.size w5 (by simp) HE.out.1 HE.out.2.2.1 HC.out.2.2.2.2).mono ?_
        rintro e w6 ⟨rfl, d6, rfl⟩
        go_wp2_with fail
        refine (equal_calls _ _ _ _ _ ((addIv n (z1.zip z2)).map (fun x : Int × Int => x.2)) w5.heap.size (w5.drewN d6) (by simp) (HE.out.2.1.kept (below_drewN (Below.refl _ _) d6)) (HE.out.2.2.2.kept (below_drewN (Below.refl _ _) d6)) HC.out.2.2.2.2).mono ?_
        rintro e w7 ⟨rfl, d7, rfl⟩
        go_wp2_with fail
        go_ret
        exact ⟨rfl, below_drewN (HV.out.2.2.trans (HS5.out.2.mono HV.out.2.2.size)) (d6 + d7)⟩
      | some x2 =>
        have hc2 := copy_run (copied W z1) (some x2) k c2 z2 HR.out.2.1 (copied_kept HW.out.2.1)
        have HV : Hid (RowIn (copied (copied W z1) z2) (copied (copied W z1) z2).heap.size (some ⟨W.heap.size, 0, none⟩) z1 ∧ RowIn (copied (copied W z1) z2) (copied (copied W z1) z2).heap.size (some ⟨(copied W z1).heap.size, 0, none⟩) z2 ∧ Below w.heap.size w (copied (copied W z1) z2)) :=
          ⟨copied_kept (copied_row W z1), copied_row _ z2, copied_below _ _ _ (copied_below _ _ _ HW.out.2.2)⟩
        go_wp2_with fail
        refine (newSet_calls src (some ⟨W.heap.size, 0, none⟩) (some ⟨(copied W z1).heap.size, 0, none⟩) k k k z1 z2 (copied (copied W z1) z2) HR.out.1 HR.out.2.1 HV.out.1 HV.out.2.1 (by omega)).mono ?_
        rintro e w1 ⟨rfl, hset, hbel⟩
        have HS : Hid (SetAt w1 (copied (copied W z1) z2).heap.size ((copied (copied W z1) z2).heap.size + 1) src (copied (copied W z1) z2).heap.size k (z1.zip z2) ∧ Below (copied (copied W z1) z2).heap.size (copied (copied W z1) z2) w1) := ⟨hset, hbel⟩
        clear hset hbel
        generalize (copied (copied W z1) z2) = V at *
        go_wp2_with fail
        refine (add_calls _ _ src _ k (z1.zip z2) n w1 HS.out.1 HC.out.1 hn0 (by unfold maxU; exact hn1) HC.out.2.2.1).mono ?_
        rintro e w2 ⟨rfl, ⟨g, cap, hset⟩, hbel⟩
        have HS2 : Hid (SetAt w2 V.heap.size (V.heap.size + 1) src g cap (addIv n (z1.zip z2)) ∧ Below V.heap.size V w2) := ⟨hset, HS.out.2.trans hbel⟩
        clear hset hbel HS
        go_wp2_with fail
        refine (firsts_calls _ _ src g cap _ w2 HS2.out.1 HC.out.2.2.2.2).mono ?_
        rintro e w3 ⟨rfl, hrow, hsz, hbel⟩
        have HS3 : Hid (SetAt w3 V.heap.size (V.heap.size + 1) src g cap (addIv n (z1.zip z2)) ∧ Below V.heap.size V w3 ∧ w3.rowIs w2.heap.size 23 (addIv n (z1.zip z2)).length (outAt ((addIv n (z1.zip z2)).map (·.1)) (addIv n (z1.zip z2)).length)) :=
          ⟨HS2.out.1.kept hbel HS2.out.1.lt.1 HS2.out.1.lt.2, HS2.out.2.trans (hbel.mono HS2.out.2.size), hrow⟩
        clear hrow hsz hbel HS2
        generalize w2.heap.size = g1 at *
        go_wp2_with fail
        refine (lasts_calls _ _ src g cap _ w3 HS3.out.1 HC.out.2.2.2.2).mono ?_
        rintro e w4 ⟨rfl, hrow, hsz, hbel⟩
        have HS4 : Hid (SetAt w4 V.heap.size (V.heap.size + 1) src g cap (addIv n (z1.zip z2)) ∧ Below V.heap.size V w4 ∧ w4.rowIs g1 23 (addIv n (z1.zip z2)).length (outAt ((addIv n (z1.zip z2)).map (·.1)) (addIv n (z1.zip z2)).length) ∧
            w4.rowIs w3.heap.size 23 (addIv n (z1.zip z2)).length (outAt ((addIv n (z1.zip z2)).map (·.2)) (addIv n (z1.zip z2)).length)) :=
          ⟨HS3.out.1.kept hbel HS3.out.1.lt.1 HS3.out.1.lt.2, HS3.out.2.1.trans (hbel.mono HS3.out.2.1.size), HS3.out.2.2.of_block (hbel.block _ HS3.out.2.2.lt), hrow⟩
        clear hrow hsz hbel HS3
        generalize w3.heap.size = g2 at *
        go_wp2_with fail
        refine (model_calls (some ⟨W.heap.size, 0, none⟩) (some ⟨(copied W z1).heap.size, 0, none⟩) k k k z1 z2 n w4 HR.out.1 HR.out.2.1 ((HV.out.1.kept HS4.out.2.1).mono HS4.out.2.1.size) ((HV.out.2.1.kept HS4.out.2.1).mono HS4.out.2.1.size) (by omega) hn0 hn1 HR.out.2.2.1 HC.out.2.2.2.1).mono ?_
        rintro e w5 ⟨p, q, m, cf, cl, rfl, hp, hq, hbel⟩
        rw [HC.out.2.1] at hp hq
        obtain rfl : (addIv n (z1.zip z2)).length = m := by have := hp.len; simpa using this
        have hpr := hp.rowIn
        have hqr := hq.rowIn
        have HS5 : Hid (SetAt w5 V.heap.size (V.heap.size + 1) src g cap (addIv n (z1.zip z2)) ∧ Below V.heap.size V w5) := ⟨HS4.out.1.kept hbel HS4.out.1.lt.1 HS4.out.1.lt.2, HS4.out.2.1.trans (hbel.mono HS4.out.2.1.size)⟩
        have HE : Hid (RowIn w5 w5.heap.size (some ⟨g1, 0, none⟩) ((addIv n (z1.zip z2)).map (·.1)) ∧ RowIn w5 w5.heap.size (some ⟨g2, 0, none⟩) ((addIv n (z1.zip z2)).map (·.2)) ∧
            RowIn w5 w5.heap.size (some ⟨p, 0, none⟩) ((addIv n (z1.zip z2)).map (·.1)) ∧ RowIn w5 w5.heap.size (some ⟨q, 0, none⟩) ((addIv n (z1.zip z2)).map (·.2))) :=
          ⟨RowIn.of_out (HS4.out.2.2.1.of_block (hbel.block _ HS4.out.2.2.1.lt)) (by simp), RowIn.of_out (HS4.out.2.2.2.of_block (hbel.block _ HS4.out.2.2.2.lt)) (by simp), hpr, hqr⟩
        clear hp hq hpr hqr hbel HS4
        go_wp2_with fail
        refine (source_calls _ _ src g cap _ w5 HS5.out.1).mono ?_
        rintro e w5 ⟨rfl, rfl⟩
        go_wp2_with fail
        refine (equal_calls _ _ _ _ _ ((addIv n (z1.zip z2)).map (·.1)) w5.heap.size w5 (by simp) HE.out.1 HE.out.2.2.1 HC.out.2.2.2.2).mono ?_
        rintro e w6 ⟨rfl, d6, rfl⟩
        go_wp2_with fail
        refine (equal_calls _ _ _ _ _ ((addIv n (z1.zip z2)).map (fun x : Int × Int => x.2)) w5.heap.size (w5.drewN d6) (by simp) (HE.out.2.1.kept (below_drewN (Below.refl _ _) d6)) (HE.out.2.2.2.kept (below_drewN (Below.refl _ _) d6)) HC.out.2.2.2.2).mono ?_
        rintro e w7 ⟨rfl, d7, rfl⟩
        go_wp2_with fail
        go_ret
        exact ⟨rfl, below_drewN (HV.out.2.2.trans (HS5.out.2.mono HV.out.2.2.size)) (d6 + d7)⟩

end Go.Proofs.Qxb6630740a

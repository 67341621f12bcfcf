import Derived.Test.Qxb6630740aLooks
import Derived.WalkSmall
/- zzDistinctCount: the walk. -/
namespace Go.Proofs.Qxb6630740a
open Go.RowKit

/-- A row of numbers, as cells. -/
def cellOf (L : List Int) (i : Nat) : Value := .int .u64 (L.getD i 0)

theorem row_set {w : World} {b n j : Nat} {L : List Int} (h : w.rowIs b 23 n (cellOf L)) (x : Int) (hj : j < n) (hl : L.length = n) : (w.setCell ⟨b, j, none⟩ (.int .u64 x)).rowIs b 23 n (cellOf (L.set j x)) :=
  (h.set j _).congr fun i hi => by
    unfold cellOf
    by_cases e : i = j
    · subst e; simp [List.getD, hl, hj]
    · rw [if_neg e]
      simp [List.getD, Ne.symm e]

set_option maxRecDepth 100000 in
set_option maxHeartbeats 1600000 in
theorem count_calls (a : Option Addr) (n c : Nat) (ns : List Int) (w : World) (hl : ns.length = n) (r : RowIn w w.heap.size a ns) (hn : n ≤ 4096) :
    Calls Try.prog 16 #[.slice a n c] w fun e w' => e = .returned (.int .i64 (nd ns : Nat)) ∧ Below w.heap.size w w' := by
  have hmk := run_make_row' (P := Try.prog) 22 23 (.int .u64 0) 8 Try.underlying22 info23 rfl .i64 .i64 n (by omega) (by omega)
  have hn1 : (n : Int) ≤ 4096 := by omega
  have HR : Hid (ns.length = n) := hl
  clear hl
  go_enter Try.func16, Try.ntmps16
  go_wp2
  go_loopw [4] (fun i wr => ∃ k : Nat, k ≤ n ∧ i = .int .i64 k ∧ wr.rowIs w.heap.size 23 n (outAt ns k) ∧ Below w.heap.size w wr) (fun i _ => n - (intOf i).toNat)
  case atStart => exact ⟨0, Nat.zero_le _, rfl, (World.rowIs_made w _ _ 23).congr (fun i _ => by simp [outAt]), (Below.refl _ _).alloc (Nat.le_refl _) _⟩
  case round =>
    obtain ⟨k, hk, rfl, hrow, hb⟩ := hrel
    by_cases hlt : k < n
    · obtain ⟨b1, o1, rfl, hb1, e1⟩ := (r.kept hb).at (k := k) (by rw [HR.out]; exact hlt)
      have d1 := e1 k (by rw [HR.out]; exact hlt)
      have c2 := hrow.cell hlt
      have c3 := hrow.frozen k
      have hst := outAt_step hrow
      have HST : Hid ((wr.setCell ⟨w.heap.size, k, none⟩ (.int .u64 (ns.getD k 0))).rowIs w.heap.size 23 n (outAt ns (k + 1))) := hst
      clear hst e1
      generalize ns.getD k 0 = x at *
      go_wp2
      go_roundw
      case rel => exact ⟨k + 1, by omega, by go_num, HST.out, hb.setCell (Nat.le_refl _) _⟩
      case measure => simp [intOf]; omega
    · have hkn : k = n := by omega
      subst hkn
      have hrow2 : wr.rowIs w.heap.size 23 k (cellOf ns) := hrow.congr fun i hi => by unfold outAt cellOf; rw [if_pos hi]
      clear hrow r
      go_wp2
      go_loopw [5] (fun i wx => ∃ (m : Nat) (L : List Int), 1 ≤ m ∧ i = .int .i64 m ∧ L.length = k ∧ L.Perm ns ∧ (L.take m).Pairwise (· ≤ ·) ∧ m ≤ k + 1 ∧ wx.rowIs w.heap.size 23 k (cellOf L) ∧ Below w.heap.size w wx) (fun i _ => k + 1 - (intOf i).toNat)
      case atStart =>
        refine ⟨1, ns, by omega, rfl, HR.out, List.Perm.refl _, ?_, by omega, hrow2, hb⟩
        match ns with
        | [] => simp
        | [_] => simp
        | _ :: _ :: _ => simp
      case round =>
        clear hrow2 hb
        obtain ⟨m, L, hm1, rfl, hL, hperm, hsort, hmk1, hrow, hb⟩ := hrel
        by_cases hlt2 : m < k
        · have c1 := hrow.cell hlt2
          have HP : Hid (L.length = k ∧ L.Perm ns ∧ (L.take m).Pairwise (· ≤ ·)) := ⟨hL, hperm, hsort⟩
          have hstart : Hole (L.take m) (L.drop (m + 1)) (L.getD m 0) m L := by
            have h := Hole.start (L.take m) (L.drop (m + 1)) (L.getD m 0)
            have e1 : (L.take m).length = m := by simp; omega
            have e2 : L.take m ++ L.getD m 0 :: L.drop (m + 1) = L := by
              rw [getD_at (show m < L.length by omega), ← List.drop_eq_getElem_cons (show m < L.length by omega), List.take_append_drop]
            rw [e1, e2] at h
            exact h
          have HH : Hid (Hole (L.take m) (L.drop (m + 1)) (L.getD m 0) m L) := hstart
          clear hstart hL hperm hsort
          unfold cellOf at c1
          generalize hv : L.getD m 0 = v at *
          have HV : Hid (L.getD m 0 = v) := hv
          clear hv
          have hm2 : (m : Int) < k := by omega
          go_wp2
          go_loopw [7] (fun t wy => ∃ (j : Nat) (L' : List Int), j ≤ m ∧ t = .int .i64 j ∧ L'.length = k ∧ Hole (L.take m) (L.drop (m + 1)) v j L' ∧ wy.rowIs w.heap.size 23 k (cellOf L') ∧ Below w.heap.size w wy) (fun t _ => (intOf t).toNat)
          case atStart => exact ⟨m, L, Nat.le_refl _, rfl, HP.out.1, HH.out, hrow, hb⟩
          case round =>
            clear hrow hb c1
            obtain ⟨j, L', hj, rfl, hL', hhole, hrow, hb⟩ := hrel
            have HO : Hid (Hole (L.take m) (L.drop (m + 1)) v j L' ∧ L'.length = k) := ⟨hhole, hL'⟩
            clear hhole hL'
            have hmL : m < L.length := by rw [HP.out.1]; exact hlt2
            match j, hj, HO, hrow with
            | 0, _, HO, hrow =>
              have d1 := hrow.cell (i := 0) (by omega)
              have d2 := hrow.frozen 0
              have hfin := HO.out.1.done HV.out hmL HP.out.2.1 HP.out.2.2 (fun h => absurd h (Nat.lt_irrefl _))
              have hrf := row_set hrow v (j := 0) (by omega) HO.out.2
              have HF : Hid ((L'.set 0 v).Perm ns ∧ ((L'.set 0 v).take (m + 1)).Pairwise (· ≤ ·) ∧ (L'.set 0 v).length = k ∧ (wr.setCell ⟨w.heap.size, 0, none⟩ (.int .u64 v)).rowIs w.heap.size 23 k (cellOf (L'.set 0 v))) := ⟨hfin.1, hfin.2, by simpa using HO.out.2, hrf⟩
              clear hfin hrf
              have t1 : decide ((0 : Int) < ((0 : Nat) : Int)) = false := by simp
              go_wp2
              go_roundw
              case rel => exact ⟨m + 1, L'.set 0 v, by omega, by go_num, HF.out.2.2.1, HF.out.1, HF.out.2.1, by omega, HF.out.2.2.2, hb.setCell (Nat.le_refl _) _⟩
              case measure => simp [intOf]; omega
            | q + 1, hj, HO, hrow =>
              have d0 := hrow.cell (i := q) (by omega)
              have d1 := hrow.cell (i := q + 1) (by omega)
              have d2 := hrow.frozen (q + 1)
              unfold cellOf at d0 d1
              rw [HO.out.1.read] at d0
              have hq1 : (0 : Int) < (q : Int) + 1 := by omega
              have hq2 : (q : Int) + 1 < k := by omega
              by_cases hgt : v < (L.take m).getD q 0
              · have hstep := HO.out.1.step hgt
                have hrf := row_set hrow ((L.take m).getD q 0) (j := q + 1) (by omega) HO.out.2
                have HF : Hid (Hole (L.take m) (L.drop (m + 1)) v q (L'.set (q + 1) ((L.take m).getD q 0)) ∧ (L'.set (q + 1) ((L.take m).getD q 0)).length = k ∧ (wr.setCell ⟨w.heap.size, q + 1, none⟩ (.int .u64 ((L.take m).getD q 0))).rowIs w.heap.size 23 k (cellOf (L'.set (q + 1) ((L.take m).getD q 0)))) := ⟨hstep, by simpa using HO.out.2, hrf⟩
                clear hstep hrf
                generalize hx : (L.take m).getD q 0 = x at *
                clear hx
                go_wp2
                go_roundw
                case rel => exact ⟨q, L'.set (q + 1) x, by omega, by go_num, HF.out.2.1, HF.out.1, HF.out.2.2, hb.setCell (Nat.le_refl _) _⟩
                case measure => simp [intOf]
              · have hfin := HO.out.1.done HV.out hmL HP.out.2.1 HP.out.2.2 (fun _ => by rw [Nat.add_sub_cancel]; omega)
                have hrf := row_set hrow v (j := q + 1) (by omega) HO.out.2
                have HF : Hid ((L'.set (q + 1) v).Perm ns ∧ ((L'.set (q + 1) v).take (m + 1)).Pairwise (· ≤ ·) ∧ (L'.set (q + 1) v).length = k ∧ (wr.setCell ⟨w.heap.size, q + 1, none⟩ (.int .u64 v)).rowIs w.heap.size 23 k (cellOf (L'.set (q + 1) v))) := ⟨hfin.1, hfin.2, by simpa using HO.out.2, hrf⟩
                clear hfin hrf
                have t1 : decide (v < (L.take m).getD q 0) = false := by simp only [decide_eq_false_iff_not]; exact hgt
                generalize hx : (L.take m).getD q 0 = x at *
                clear hx
                go_wp2
                go_roundw
                case rel => exact ⟨m + 1, L'.set (q + 1) v, by omega, by go_num, HF.out.2.2.1, HF.out.1, HF.out.2.1, by omega, HF.out.2.2.2, hb.setCell (Nat.le_refl _) _⟩
                case measure => simp [intOf]; omega
        · have hsorted : L.Pairwise (· ≤ ·) := by rw [List.take_of_length_le (by omega)] at hsort; exact hsort
          have HS : Hid (L.Pairwise (· ≤ ·) ∧ L.length = k ∧ nd L = nd ns) := ⟨hsorted, hL, nd_perm hperm⟩
          have HRW : Hid (wr.rowIs w.heap.size 23 k (cellOf L) ∧ Below w.heap.size w wr) := ⟨hrow, hb⟩
          clear hsorted hL hperm hsort hrow hb
          go_wp2
          generalize wr = w5 at HRW ⊢
          go_loopw [8, 9] (fun ct i wx => ∃ q d : Nat, q ≤ k ∧ i = .int .i64 q ∧ ct = .int .i64 (nd (L.take q) : Nat) ∧ wx = w5.drewN d) (fun _ i _ => k - (intOf i).toNat)
          case atStart => exact ⟨0, 0, Nat.zero_le _, rfl, rfl, rfl⟩
          case round =>
            obtain ⟨q, d, hq, rfl, rfl, rfl⟩ := hrel
            have hcnt : nd (L.take q) ≤ 4096 := Nat.le_trans (nd_le _) (by simp; omega)
            by_cases hlt3 : q < k
            · have hsn : nd (L.take (q + 1)) = nd (L.take q) + if L.getD q 0 ∈ L.take q then 0 else 1 := by
                rw [List.take_succ_eq_append_getElem (by rw [HS.out.2.1]; exact hlt3), nd_snoc, getD_at (by rw [HS.out.2.1]; exact hlt3)]
              have d0 := HRW.out.1.cell hlt3
              unfold cellOf at d0
              have hq1 : (q : Int) < k := by omega
              match q, hq, hlt3, hsn, d0, hq1, hcnt with
              | 0, _, _, hsn, d0, _, _ =>
                have t1 : (((0 : Nat) : Int) == 0) = true := by simp
                have HN : Hid (nd (L.take (0 + 1)) = 1) := by
                  show _ = _
                  rw [hsn]; simp [nd]
                clear hsn
                go_wp2_with fail
                go_quiet (fail)
                rw [World.drewN_drewN]
                go_wp2_with fail
                go_roundw
                case rel => exact ⟨1, _, by omega, rfl, by rw [HN.out]; simp [nd, wrap64], rfl⟩
                case measure => simp [intOf]; omega
              | q + 1, _, hlt3, hsn, d0, hq1, hcnt =>
                have hms := mem_take_sorted HS.out.1 (i := q + 1) (by omega) (by rw [HS.out.2.1]; exact hlt3)
                rw [Nat.add_sub_cancel] at hms
                have d1 := HRW.out.1.cell (i := q) (by omega)
                unfold cellOf at d1
                have t1 : (((q : Int) + 1) == 0) = false := by rw [beq_eq_false_iff_ne]; omega
                have hq0 : (0 : Int) ≤ (q : Int) := by omega
                have hq2 : (q : Int) < k := by omega
                have hq3 : (q : Int) + 1 < k := by omega
                by_cases he : L.getD (q + 1) 0 = L.getD q 0
                · have HN : Hid (nd (L.take (q + 1 + 1)) = nd (L.take (q + 1))) := by
                    show _ = _
                    rw [hsn, if_pos (hms.2 he)]; rfl
                  rw [he] at d0
                  have t2 : (L.getD q 0 != L.getD q 0) = false := by simp
                  clear hsn hms he
                  generalize L.getD q 0 = x at *
                  go_wp2_with fail
                  go_quiet (fail)
                  rw [World.drewN_drewN]
                  go_wp2_with fail
                  go_roundw
                  case rel => exact ⟨q + 1 + 1, _, by omega, by go_num, by rw [HN.out], rfl⟩
                  case measure => simp [intOf]; omega
                · have HN : Hid (nd (L.take (q + 1 + 1)) = nd (L.take (q + 1)) + 1) := by
                    show _ = _
                    rw [hsn, if_neg (fun h => he (hms.1 h))]
                  have t2 : (L.getD (q + 1) 0 != L.getD q 0) = true := by rw [bne_iff_ne]; exact he
                  clear hsn hms he
                  generalize L.getD q 0 = x at *
                  generalize L.getD (q + 1) 0 = y at *
                  go_wp2_with fail
                  go_quiet (fail)
                  rw [World.drewN_drewN]
                  go_wp2_with fail
                  go_roundw
                  case rel => exact ⟨q + 1 + 1, _, by omega, by go_num, by rw [HN.out]; go_num, rfl⟩
                  case measure => simp [intOf]; omega
            · have hfin : nd (L.take q) = nd ns := by rw [List.take_of_length_le (by rw [HS.out.2.1]; omega)]; exact HS.out.2.2
              have HFIN : Hid (nd (L.take q) = nd ns) := hfin
              clear hfin
              go_wp2
              go_ret
              exact ⟨congrArg (fun m : Nat => Ending.returned (Value.int .i64 (m : Int))) HFIN.out, below_drewN HRW.out.2 _⟩
end Go.Proofs.Qxb6630740a

import Derived.Test.Qxb6630740aCount
/- FnAddScriptBuildsCanonicalSet: the walk. -/
namespace Go.Proofs.Qxb6630740a
open Go.RowKit

theorem script_len (ns : List Int) (h : ∀ x ∈ ns, 0 ≤ x ∧ x < maxU) : (script ns).length ≤ ns.length := by
  have h1 := len_le_tot (script_canon ns h)
  have h2 := (script_cov ns h).2
  have h3 := nd_le ns
  omega

/-- The numbers that the law has looked at are none of them 2^64 - 1. -/
def NotMax (ns : List Int) (k : Nat) : Prop := ∀ j, j < k → ns.getD j 0 ≠ 18446744073709551615

set_option maxRecDepth 100000 in
set_option maxHeartbeats 3200000 in
theorem script_mid (src : ByteArray) (a : Option Addr) (n c : Nat) (ns : List Int) (w : World) (hl : ns.length = n) (r : RowIn w w.heap.size a ns) (hr : ∀ x ∈ ns, 0 ≤ x ∧ x ≤ 18446744073709551615) (hn : n ≤ 4096) (hs : src.size + 8 * n ≤ 1048576) :
    Calls Try.prog 4 #[.string src, .slice a n c] w fun e w' => e = .returned (.bool true) ∧ Below w.heap.size w w' := by
  have hn1 : (n : Int) ≤ 4096 := by omega
  have hs1 : (src.size : Int) + 8 * (n : Int) ≤ 1048576 := by omega
  have hs2 : (src.size : Int) ≤ 1048576 := by omega
  have HR : Hid (ns.length = n ∧ ∀ x ∈ ns, 0 ≤ x ∧ x ≤ 18446744073709551615) := ⟨hl, hr⟩
  clear hl hr
  have t1 : decide ((1048576 : Int) < src.size) = false := by simp; omega
  have t2 : decide ((4096 : Int) < n) = false := by simp; omega
  have t3 : decide ((1048576 : Int) < (src.size : Int) + 8 * (n : Int)) = false := by simp; omega
  go_enter Try.func4, Try.ntmps4
  go_wp2_with fail
  refine (bytes_yes src a n c w (by omega)).mono ?_
  rintro e w ⟨rfl, rfl⟩
  go_wp2_with fail
  go_loop [5] (fun i => ∃ k : Nat, k ≤ n ∧ i = .int .i64 k ∧ NotMax ns k) (fun i => n - (intOf i).toNat)
  case atStart => exact ⟨0, Nat.zero_le _, rfl, fun j hj => absurd hj (Nat.not_lt_zero _)⟩
  case round =>
    obtain ⟨k, hk, rfl, hall⟩ := hrel
    by_cases hlt : k < n
    · obtain ⟨b1, o1, rfl, hb1, e1⟩ := r.at (k := k) (by rw [HR.out.1]; exact hlt)
      have d1 := e1 k (by rw [HR.out.1]; exact hlt)
      clear e1
      generalize hx : ns.getD k 0 = x at *
      have HX : Hid (ns.getD k 0 = x) := hx
      clear hx
      have hk1 : (k : Int) < n := by omega
      by_cases hm : x = 18446744073709551615
      · have t4 : (x == 18446744073709551615) = true := by rw [beq_iff_eq]; exact hm
        clear hm
        go_wp2_with fail
        go_ret
        exact ⟨rfl, Below.refl _ _⟩
      · have t4 : (x == 18446744073709551615) = false := by rw [beq_eq_false_iff_ne]; exact hm
        have HM : Hid (x ≠ 18446744073709551615) := hm
        clear hm
        go_wp2_with fail
        go_round
        case rel =>
          refine ⟨k + 1, by omega, by go_num, fun j hj => ?_⟩
          by_cases e : j = k
          · subst e; rw [HX.out]; exact HM.out
          · exact hall j (by omega)
        case measure => simp [intOf]; omega
    · have hkn : k = n := by omega
      subst hkn
      have hb : ∀ x ∈ ns, 0 ≤ x ∧ x < maxU := by
        intro x hx
        obtain ⟨j, hj, rfl⟩ := List.mem_iff_getElem.1 hx
        have h1 := HR.out.2 _ hx
        have h2 := hall j (by rw [← HR.out.1]; exact hj)
        rw [getD_at hj] at h2
        unfold maxU
        omega
      have HB : Hid (∀ x ∈ ns, 0 ≤ x ∧ x < maxU) := hb
      clear hb hall
      go_wp2_with fail
      refine (newSet_calls src none none 0 0 0 [] [] w rfl rfl (fun h => absurd rfl h) (fun h => absurd rfl h) (by omega)).mono ?_
      rintro e w1 ⟨rfl, hset, hbel⟩
      have HS0 : Hid (SetAt w1 w.heap.size (w.heap.size + 1) src w.heap.size 0 (script (ns.take 0)) ∧ Below w.heap.size w w1) := ⟨hset, hbel⟩
      clear hset hbel
      go_wp2_with fail
      go_loopw [7] (fun i wx => ∃ (q g cap : Nat), q ≤ k ∧ i = .int .i64 q ∧ SetAt wx w.heap.size (w.heap.size + 1) src g cap (script (ns.take q)) ∧ Below w.heap.size w wx) (fun i _ => k - (intOf i).toNat)
      case atStart => exact ⟨0, _, _, Nat.zero_le _, rfl, HS0.out.1, HS0.out.2⟩
      case round =>
        clear HS0
        obtain ⟨q, g, cap, hq, rfl, hset, hbel⟩ := hrel
        by_cases hlt2 : q < k
        · obtain ⟨b1, o1, rfl, hb1, e1⟩ := (r.kept hbel).at (k := q) (by rw [HR.out.1]; exact hlt2)
          have d1 := e1 q (by rw [HR.out.1]; exact hlt2)
          clear e1
          have hql : q < ns.length := by rw [HR.out.1]; exact hlt2
          have hbt : ∀ x ∈ ns.take q, 0 ≤ x ∧ x < maxU := fun x hx => HB.out x (List.mem_of_mem_take hx)
          have hbx := HB.out (ns.getD q 0) (by rw [getD_at hql]; exact List.getElem_mem hql)
          have hadd := add_calls w.heap.size (w.heap.size + 1) src g cap (script (ns.take q)) (ns.getD q 0) wr hset (script_canon _ hbt) hbx.1 hbx.2 (by have := script_len (ns.take q) hbt; simp at this; omega)
          have hsn : script (ns.take (q + 1)) = addIv (ns.getD q 0) (script (ns.take q)) := by
            rw [List.take_succ_eq_append_getElem hql, script_snoc, getD_at hql]
          rw [← hsn] at hadd
          have HADD : Hid (Calls Try.prog 8 #[.pointer (some ⟨w.heap.size + 1, 0, none⟩), .int .u64 (ns.getD q 0)] wr fun e w' => e = .returned (.tuple #[]) ∧ (∃ g' cap', SetAt w' w.heap.size (w.heap.size + 1) src g' cap' (script (ns.take (q + 1)))) ∧ Below w.heap.size wr w') := hadd
          clear hadd hsn hbx hbt hset
          generalize ns.getD q 0 = x at *
          have hq1 : (q : Int) < k := by omega
          go_wp2_with fail
          refine HADD.out.mono ?_
          rintro e w2 ⟨rfl, ⟨g', cap', hset2⟩, hbel2⟩
          have HF : Hid (SetAt w2 w.heap.size (w.heap.size + 1) src g' cap' (script (ns.take (q + 1))) ∧ Below w.heap.size w w2) := ⟨hset2, hbel.trans hbel2⟩
          clear hset2 hbel2 HADD
          go_wp2_with fail
          go_roundw
          case rel => exact ⟨q + 1, g', cap', by omega, by go_num, HF.out.1, HF.out.2⟩
          case measure => simp [intOf]; omega
        · have hqk : q = k := by omega
          subst hqk
          rw [List.take_of_length_le (by rw [HR.out.1]; omega)] at hset
          have hN := script_len ns HB.out
          rw [HR.out.1] at hN
          obtain ⟨ivs, hivs⟩ : ∃ ivs, ivs = script ns := ⟨_, rfl⟩
          rw [← hivs] at hset hN
          have hcan := script_canon ns HB.out
          have hcov := script_cov ns HB.out
          rw [← hivs] at hcan hcov
          have HI : Hid (CanonFrom (-1) ivs ∧ (∀ x, Cov x ivs ↔ x ∈ ns) ∧ tot ivs = nd ns) := ⟨hcan, hcov⟩
          clear hivs hcan hcov
          go_wp2_with fail
          refine (firsts_calls _ _ src g cap ivs wr hset (by omega)).mono ?_
          rintro e w2 ⟨rfl, hrow1, hsz1, hbel1⟩
          have hset2 := hset.kept hbel1 hset.lt.1 hset.lt.2
          have HK : Hid (w2.rowIs wr.heap.size 23 ivs.length (outAt (ivs.map (·.1)) ivs.length) ∧ w2.heap.size = wr.heap.size + 1 ∧ Below w.heap.size w w2 ∧ SetAt w2 w.heap.size (w.heap.size + 1) src g cap ivs) := ⟨hrow1, hsz1, hbel.trans (hbel1.mono hbel.size), hset2⟩
          clear hrow1 hsz1 hbel1 hbel hset hset2
          generalize wr.heap.size = b1 at *
          go_wp2_with fail
          refine (lasts_calls _ _ src g cap ivs w2 HK.out.2.2.2 (by omega)).mono ?_
          rintro e w3 ⟨rfl, hrow2, hsz2, hbel2⟩
          obtain ⟨hrow1, hsz1, hbel1, hset1⟩ := HK.out
          have hset3 := hset1.kept hbel2 hset1.lt.1 hset1.lt.2
          have HW : Hid (w3.rowIs b1 23 ivs.length (outAt (ivs.map (·.1)) ivs.length) ∧ w3.rowIs w2.heap.size 23 ivs.length (outAt (ivs.map (·.2)) ivs.length) ∧ Below w.heap.size w w3 ∧ SetAt w3 w.heap.size (w.heap.size + 1) src g cap ivs) :=
            ⟨hrow1.of_block (hbel2.block _ hrow1.lt), hrow2, hbel1.trans (hbel2.mono hbel1.size), hset3⟩
          clear hrow1 hsz1 hbel1 hset1 hrow2 hsz2 hbel2 hset3 HK
          generalize w2.heap.size = b2 at *
          go_wp2_with fail
          refine (source_calls _ _ src g cap ivs w3 HW.out.2.2.2).mono ?_
          rintro e w3 ⟨rfl, rfl⟩
          have f1 : ∀ m, m < ivs.length → w3.cell? ⟨b1, m, none⟩ = some (.int .u64 (ivs.getD m (0, 0)).1) := fun m hm => (HW.out.1.cell hm).trans (by unfold outAt; rw [if_pos hm]; simp [List.getD, hm])
          have f2 : ∀ m, m < ivs.length → w3.cell? ⟨b2, m, none⟩ = some (.int .u64 (ivs.getD m (0, 0)).2) := fun m hm => (HW.out.2.1.cell hm).trans (by unfold outAt; rw [if_pos hm]; simp [List.getD, hm])
          have HFF : Hid ((∀ m, m < ivs.length → w3.cell? ⟨b1, m, none⟩ = some (.int .u64 (ivs.getD m (0, 0)).1)) ∧ (∀ m, m < ivs.length → w3.cell? ⟨b2, m, none⟩ = some (.int .u64 (ivs.getD m (0, 0)).2))) := ⟨f1, f2⟩
          clear f1 f2
          have hN1 : (ivs.length : Int) ≤ (q : Int) := by omega
          go_wp2_with fail
          go_loopw [10] (fun i wx => ∃ m d : Nat, m ≤ ivs.length ∧ i = .int .i64 m ∧ wx = w3.drewN d) (fun i _ => ivs.length - (intOf i).toNat)
          case atStart => exact ⟨0, 0, Nat.zero_le _, rfl, rfl⟩
          case round =>
            obtain ⟨m, d, hm, rfl, rfl⟩ := hrel
            by_cases hlt3 : m < ivs.length
            · have d1 := HFF.out.1 m hlt3
              have d2 := HFF.out.2 m hlt3
              obtain ⟨hb0, hb1, hb2⟩ := canon_at HI.out.1 m hlt3
              unfold maxU at hb2
              have hm1 : (m : Int) < (ivs.length : Int) := by omega
              match m, hlt3, hm, d1, d2, hb0, hb1, hb2, hm1 with
              | 0, hlt3, hm, d1, d2, hb0, hb1, hb2, hm1 =>
                generalize (ivs.getD 0 (0, 0)).1 = f at *
                generalize (ivs.getD 0 (0, 0)).2 = l at *
                have t4 : decide (l < f) = false := by simp; omega
                have t5 : decide ((0 : Int) < ((0 : Nat) : Int)) = false := by simp
                go_wp2_with fail
                go_quiet (fail)
                rw [World.drewN_drewN]
                go_wp2_with fail
                go_roundw
                case rel => exact ⟨1, _, by omega, rfl, rfl⟩
                case measure => simp [intOf]; omega
              | p + 1, hlt3, hm, d1, d2, hb0, hb1, hb2, hm1 =>
                have d3 := HFF.out.2 p (by omega)
                have hg := canon_gap HI.out.1 p hlt3
                obtain ⟨hc0, hc1, hc2⟩ := canon_at HI.out.1 p (by omega)
                generalize (ivs.getD (p + 1) (0, 0)).1 = f at *
                generalize (ivs.getD (p + 1) (0, 0)).2 = l at *
                generalize (ivs.getD p (0, 0)).2 = l0 at *
                have hl0 : -1 < l0 := by omega
                clear hc0 hc1 hc2
                have t4 : decide (l < f) = false := by simp; omega
                have t5 : decide (f ≤ l0) = false := by simp; omega
                have hp1 : (0 : Int) ≤ (p : Int) := by omega
                have hp2 : (p : Int) < (ivs.length : Int) := by omega
                have hp3 : (p : Int) + 1 < (ivs.length : Int) := by omega
                go_wp2_with fail
                go_quiet (fail)
                rw [World.drewN_drewN]
                go_wp2_with fail
                go_quiet (fail)
                rw [World.drewN_drewN]
                go_wp2_with fail
                go_quiet (fail)
                rw [World.drewN_drewN]
                go_wp2_with fail
                go_roundw
                case rel => exact ⟨p + 1 + 1, _, by omega, by go_num, rfl⟩
                case measure => simp [intOf]; omega
            · have hmk : m = ivs.length := by omega
              subst hmk
              go_wp2_with fail
              go_loop [11] (fun i => ∃ m : Nat, m ≤ q ∧ i = .int .i64 m) (fun i => q - (intOf i).toNat)
              case atStart => exact ⟨0, Nat.zero_le _, rfl⟩
              case round =>
                obtain ⟨m, hm4, rfl⟩ := hrel
                by_cases hlt4 : m < q
                · have hml : m < ns.length := by rw [HR.out.1]; exact hlt4
                  obtain ⟨b3, o3, rfl, hb3, e3⟩ := (r.kept HW.out.2.2.1).at hml
                  have d3 := e3 m hml
                  clear e3
                  have hmem : ns.getD m 0 ∈ ns := by rw [getD_at hml]; exact List.getElem_mem hml
                  have hr1 : RowIn w3 w3.heap.size (some ⟨b1, 0, none⟩) (ivs.map (·.1)) := RowIn.of_row (HW.out.1.congr fun i hi => by unfold outAt; rw [if_pos hi]) (by simp)
                  have hr2 : RowIn w3 w3.heap.size (some ⟨b2, 0, none⟩) (ivs.map (·.2)) := RowIn.of_row (HW.out.2.1.congr fun i hi => by unfold outAt; rw [if_pos hi]) (by simp)
                  have hcv := covered_calls (some ⟨b1, 0, none⟩) (some ⟨b2, 0, none⟩) ivs.length ivs.length ivs.length (ivs.map (·.1)) (ivs.map (·.2)) (ns.getD m 0) w3.heap.size (w3.drewN d) (by simp) (by simp) (by exact hr1) (by exact hr2) (by omega) (by
                    obtain ⟨i, hi, h1, h2⟩ := cov_at ((HI.out.2.1 _).2 hmem)
                    exact ⟨i, hi, by simpa [List.getD, hi] using h1, by simpa [List.getD, hi] using h2⟩)
                  have HCV : Hid (Calls Try.prog 15 #[.slice (some ⟨b1, 0, none⟩) ivs.length ivs.length, .slice (some ⟨b2, 0, none⟩) ivs.length ivs.length, .int .u64 (ns.getD m 0)] (w3.drewN d) fun e w' => e = .returned (.bool true) ∧ w' = w3.drewN d) := hcv
                  clear hcv hr1 hr2 hmem
                  generalize ns.getD m 0 = x at *
                  have hm1 : (m : Int) < q := by omega
                  go_wp2_with fail
                  refine HCV.out.mono ?_
                  rintro e w4 ⟨rfl, rfl⟩
                  clear HCV
                  go_wp2_with fail
                  go_round
                  case rel => exact ⟨m + 1, by omega, by go_num⟩
                  case measure => simp [intOf]; omega
                · have hmq : m = q := by omega
                  subst hmq
                  go_wp2_with fail
                  go_loopw [13, 14] (fun tt i wx => ∃ p d' : Nat, p ≤ ivs.length ∧ i = .int .i64 p ∧ tt = .int .u64 (tot (ivs.take p)) ∧ wx = w3.drewN d') (fun _ i _ => ivs.length - (intOf i).toNat)
                  case atStart => exact ⟨0, d, Nat.zero_le _, rfl, rfl, rfl⟩
                  case round =>
                    obtain ⟨p, d', hp, rfl, rfl, rfl⟩ := hrel
                    have hndl := nd_le ns
                    rw [HR.out.1] at hndl
                    by_cases hlt5 : p < ivs.length
                    · have d1 := HFF.out.1 p hlt5
                      have d2 := HFF.out.2 p hlt5
                      obtain ⟨hb0, hb1, hb2⟩ := canon_at HI.out.1 p hlt5
                      unfold maxU at hb2
                      have hp1 : (p : Int) < (ivs.length : Int) := by omega
                      have htt := tot_take hlt5
                      have htl := tot_take_le (p + 1) HI.out.1
                      have htn := tot_nonneg (canon_take p HI.out.1)
                      have htt3 := HI.out.2.2
                      have hle : tot (ivs.take p) + ((ivs.getD p (0, 0)).2 - (ivs.getD p (0, 0)).1 + 1) ≤ (m : Int) := by omega
                      have HT : Hid (tot (ivs.take (p + 1)) = tot (ivs.take p) + ((ivs.getD p (0, 0)).2 - (ivs.getD p (0, 0)).1 + 1)) := htt
                      clear htt htl htt3 hndl
                      generalize (ivs.getD p (0, 0)).1 = f at *
                      generalize (ivs.getD p (0, 0)).2 = l at *
                      generalize tot (ivs.take p) = tp at *
                      have t6 : decide ((m : Int) ≤ l - f) = false := by simp; omega
                      have t7 : decide ((m : Int) < tp + (l - f + 1)) = false := by simp; omega
                      have hw1 : l - f ≤ 4096 := by omega
                      have hw2 : tp ≤ 4096 := by omega
                      go_wp2_with fail
                      go_quiet (fail)
                      rw [World.drewN_drewN]
                      go_wp2_with fail
                      go_roundw
                      case rel => exact ⟨p + 1, _, by omega, by go_num, by rw [HT.out], rfl⟩
                      case measure => simp [intOf]; omega
                    · have hpe : p = ivs.length := by omega
                      subst hpe
                      have hct := count_calls a m c ns (w3.drewN d') HR.out.1 (by exact (r.kept HW.out.2.2.1).mono HW.out.2.2.1.size) hn
                      have HCT : Hid (Calls Try.prog 16 #[.slice a m c] (w3.drewN d') fun e w' => e = .returned (.int .i64 (nd ns : Nat)) ∧ Below (w3.drewN d').heap.size (w3.drewN d') w') := hct
                      clear hct
                      have ht5 : tot (ivs.take ivs.length) = (nd ns : Nat) := by rw [List.take_of_length_le (Nat.le_refl _)]; exact HI.out.2.2
                      rw [ht5]
                      clear ht5
                      go_wp2_with fail
                      refine HCT.out.mono ?_
                      rintro e w5 ⟨rfl, hb5⟩
                      have HB5 : Hid (Below w.heap.size w w5) := (below_drewN HW.out.2.2.1 d').trans (hb5.mono HW.out.2.2.1.size)
                      clear hb5 HCT
                      have hndl' : (nd ns : Int) ≤ 4096 := by omega
                      have t8 : (((nd ns : Nat) : Int) == ((nd ns : Nat) : Int)) = true := by simp
                      go_wp2_with fail
                      go_ret
                      exact ⟨rfl, HB5.out⟩

end Go.Proofs.Qxb6630740a

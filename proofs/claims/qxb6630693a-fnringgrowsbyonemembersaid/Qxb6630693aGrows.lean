import Derived.Test.Qxb6630693aPairs
/- FnRingGrowsByOneMember: the walk. -/
namespace Go.Proofs.Qxb6630693a
open Go.RowKit

theorem lo_keep (n i : Nat) (h1 : 1 ≤ i) (h2 : i + 2 ≤ n) : lo (n + 1) i = lo n i := by
  unfold lo
  rw [if_neg (by omega), if_neg (by omega), if_neg (by omega), if_neg (by omega)]
theorem hi_keep (n i : Nat) (h1 : 1 ≤ i) (h2 : i + 2 ≤ n) : hi (n + 1) i = hi n i := by
  unfold hi
  rw [if_neg (by omega), if_neg (by omega), if_neg (by omega), if_neg (by omega)]

/-- What the law reads of a ring, in letters. -/
structure Read (w : World) (n gb ib pb : Nat) (V : Nat → Value) : Prop where
  ids : w.cell? ⟨gb, 0, none⟩ = some (.slice (some ⟨ib, 0, none⟩) n n)
  peers : w.cell? ⟨gb, 1, none⟩ = some (.slice (some ⟨pb, 0, none⟩) n n)
  links : w.cell? ⟨gb, 2, none⟩ = some (.int .i64 n)
  id : ∀ k, k < n → w.cell? ⟨ib, k, none⟩ = some (.int .u64 k)
  pair : ∀ k, k < n → ∃ g cap, w.cell? ⟨pb, k, none⟩ = some (.slice (some ⟨g, 0, none⟩) 2 cap) ∧ w.cell? ⟨g, 0, none⟩ = some (.int .i64 (lo n k)) ∧ w.cell? ⟨g, 1, none⟩ = some (.int .i64 (hi n k))

theorem RingAt.read {w : World} {n gb : Nat} (h : RingAt w n gb) : ∃ ib pb V, Read w n gb ib pb V := by
  obtain ⟨ib, pb, V, hg, hids, hrow, hp⟩ := h
  refine ⟨ib, pb, V, by simp [World.cell?, hg, graphObj], by simp [World.cell?, hg, graphObj], by simp [World.cell?, hg, graphObj], fun k hk => (hids.cell hk).trans (by unfold idsAt; rw [if_pos hk]), fun k hk => ?_⟩
  obtain ⟨g, cap, hv, c0, c1⟩ := hp k hk
  exact ⟨g, cap, (hrow.cell hk).trans (by rw [hv]), c0, c1⟩

set_option maxRecDepth 100000 in
set_option maxHeartbeats 1600000 in
theorem grows_mid (n : Nat) (hn3 : 3 ≤ n) (hn : n ≤ 65535) (w : World) :
    Calls Try.prog 4 #[.int .i64 n] w fun e w' => e = .returned (.bool true) ∧ Below w.heap.size w w' := by
  have hn1 : (n : Int) ≤ 65535 := by omega
  have hn2 : (3 : Int) ≤ n := by omega
  have t1 : decide ((65535 : Int) < n) = false := by simp; omega
  have t2 : decide ((n : Int) < 3) = false := by simp; omega
  go_enter Try.func4, Try.ntmps4
  go_wp2_with fail
  refine (ring_calls n hn3 (by omega) w).mono ?_
  rintro e w1 ⟨ga, rfl, hra, hb1⟩
  have hr2 := ring_calls (n + 1) (by omega) (by omega) w1
  rw [show ((n + 1 : Nat) : Int) = (n : Int) + 1 from by omega] at hr2
  have HR : Hid (RingAt w1 n ga ∧ Below w.heap.size w w1) := ⟨hra, hb1⟩
  clear hra hb1
  have HR2 : Hid (Calls Try.prog 5 #[.int .i64 ((n : Int) + 1)] w1 fun e w' => ∃ gb, e = .returned (.tuple #[.pointer (some ⟨gb, 0, none⟩), .nilIface]) ∧ RingAt w' (n + 1) gb ∧ Below w1.heap.size w1 w') := hr2
  clear hr2
  go_wp2_with fail
  refine HR2.out.mono ?_
  rintro e w2 ⟨gb, rfl, hrb, hb2⟩
  obtain ⟨hra, hb1⟩ := HR.out
  obtain ⟨ia, pa, Va, ra⟩ := (hra.kept hb2).read
  obtain ⟨ib, pb, Vb, rb⟩ := hrb.read
  have HB : Hid (Read w2 n ga ia pa Va ∧ Read w2 (n + 1) gb ib pb Vb ∧ Below w.heap.size w w2) := ⟨ra, rb, hb1.trans (hb2.mono hb1.size)⟩
  have A0 := ra.ids
  have A1 := ra.peers
  have A2 := ra.links
  have B0 := rb.ids
  have B1 := rb.peers
  have B2 := rb.links
  rw [show ((n + 1 : Nat) : Int) = (n : Int) + 1 from by omega] at B2
  clear ra rb hra hrb hb1 hb2 HR HR2
  have t3 : ((n : Int) + 1 != (n : Int) + 1) = false := by simp
  go_wp2_with fail
  go_quiet (fail)
  go_wp2_with fail
  go_loopw [8] (fun i wr => ∃ k m : Nat, k ≤ n ∧ i = .int .i64 k ∧ wr = w2.drewN m) (fun i _ => n - (intOf i).toNat)
  case atStart => exact ⟨0, nq, Nat.zero_le _, rfl, rfl⟩
  case round =>
    obtain ⟨k, m, hk, rfl, rfl⟩ := hrel
    by_cases hlt : k < n
    · have c0 := HB.out.1.id k hlt
      have c1 := HB.out.2.1.id k (by omega)
      have hk1 : (k : Int) < n := by omega
      have t4 : ((k : Int) != (k : Int)) = false := by simp
      go_wp2_with fail
      go_quiet (fail)
      rw [World.drewN_drewN]
      go_wp2_with fail
      go_roundw
      case rel => exact ⟨k + 1, _, by omega, by go_num, rfl⟩
      case measure => simp [intOf]; omega
    · have c0 := HB.out.2.1.id n (by omega)
      have t4 : ((n : Int) != (n : Int)) = false := by simp
      go_wp2_with fail
      clear c0 t4
      go_loopw [9] (fun i wr => ∃ r m : Nat, 1 ≤ r ∧ r + 1 ≤ n ∧ i = .int .i64 r ∧ wr = w2.drewN m) (fun i _ => n - (intOf i).toNat)
      case atStart => exact ⟨1, m, by omega, by omega, rfl, rfl⟩
      case round =>
        obtain ⟨r, m2, hr1, hr2, rfl, rfl⟩ := hrel
        by_cases hle : r + 2 ≤ n
        · have hr3 : (r : Int) ≤ (n : Int) - 2 := by omega
          have hr4 : (1 : Int) ≤ (r : Int) := by omega
          have hr5 : (r : Int) < (n : Int) := by omega
          have hr6 : (r : Int) < (n : Int) + 1 := by omega
          obtain ⟨g1, c1, p1, p10, p11⟩ := HB.out.1.pair r (by omega)
          obtain ⟨g2, c2, p2, p20, p21⟩ := HB.out.2.1.pair r (by omega)
          rw [lo_keep n r hr1 hle] at p20
          rw [hi_keep n r hr1 hle] at p21
          generalize lo n r = x0 at *
          generalize hi n r = x1 at *
          go_wp2_with fail
          go_quiet ((go_at_call 6; exact sameInts_quiet g1 g2 c1 c2 x0 x1 m2 _ w2 p10 p11 p20 p21))
          rw [World.drewN_drewN]
          go_wp2_with fail
          go_roundw
          case rel => exact ⟨r + 1, _, by omega, by omega, by go_num, rfl⟩
          case measure => simp [intOf]; omega
        · have hr3 : (n : Int) - 2 < (r : Int) := by omega
          obtain ⟨q, hq⟩ : ∃ q, n = q + 1 := ⟨n - 1, by omega⟩
          have hq1 : (n : Int) - 1 = (q : Int) := by omega
          obtain ⟨g1, c1, p1, p10, p11⟩ := HB.out.1.pair 0 (by omega)
          obtain ⟨g2, c2, p2, p20, p21⟩ := HB.out.1.pair q (by omega)
          obtain ⟨g3, c3, p3, p30, p31⟩ := HB.out.2.1.pair 0 (by omega)
          obtain ⟨g4, c4, p4, p40, p41⟩ := HB.out.2.1.pair q (by omega)
          obtain ⟨g5, c5, p5, p50, p51⟩ := HB.out.2.1.pair n (by omega)
          rw [show lo n 0 = 1 from rfl] at p10
          rw [show hi n 0 = (q : Int) from by unfold hi; rw [if_pos rfl]; omega] at p11
          rw [show lo n q = 0 from by unfold lo; rw [if_neg (by omega), if_pos (by omega)]] at p20
          rw [show hi n q = (n : Int) - 2 from by unfold hi; rw [if_neg (by omega), if_pos (by omega)]] at p21
          rw [show lo (n + 1) 0 = 1 from rfl] at p30
          rw [show hi (n + 1) 0 = (n : Int) from by unfold hi; rw [if_pos rfl]; omega] at p31
          rw [show lo (n + 1) q = (n : Int) - 2 from by unfold lo; rw [if_neg (by omega), if_neg (by omega)]; omega] at p40
          rw [show hi (n + 1) q = (n : Int) from by unfold hi; rw [if_neg (by omega), if_neg (by omega)]; omega] at p41
          rw [show lo (n + 1) n = 0 from by unfold lo; rw [if_neg (by omega), if_pos (by omega)]] at p50
          rw [show hi (n + 1) n = (q : Int) from by unfold hi; rw [if_neg (by omega), if_pos (by omega)]; omega] at p51
          have hq2 : (q : Int) < (n : Int) := by omega
          clear hq
          go_wp2_with fail
          refine (pairIs_calls g1 c1 _ _ _ (by exact p10) (by exact p11)).mono ?_
          rintro e w3 ⟨rfl, rfl⟩
          go_wp2_with fail
          refine (pairIs_calls g2 c2 _ _ _ (by exact p20) (by exact p21)).mono ?_
          rintro e w3 ⟨rfl, rfl⟩
          go_wp2_with fail
          refine (pairIs_calls g3 c3 _ _ _ (by exact p30) (by exact p31)).mono ?_
          rintro e w3 ⟨rfl, rfl⟩
          go_wp2_with fail
          refine (pairIs_calls g4 c4 _ _ _ (by exact p40) (by exact p41)).mono ?_
          rintro e w3 ⟨rfl, rfl⟩
          go_wp2_with fail
          refine (pairIs_calls g5 c5 _ _ _ (by exact p50) (by exact p51)).mono ?_
          rintro e w3 ⟨rfl, rfl⟩
          go_wp2_with fail
          go_ret
          exact ⟨rfl, below_drewN HB.out.2.2 _⟩

end Go.Proofs.Qxb6630693a

import Derived.Test.Qxb6630693aRing
import Derived.Deep.QuietTactic
import Derived.BigQuiet
import Derived.WalkSmall
/- FnRingIsTheCycle: the walk. -/
namespace Go.Proofs.Qxb6630693a
open Go.RowKit

/-- A peer of member i stands one step away, round the ring. -/
theorem near_lo (n i : Nat) (hn : 3 ≤ n) (hi : i < n) : (lo n i = i + 1) ∨ (lo n i - i = 1 - (n : Int)) ∨ (lo n i = i - 1) := by
  unfold lo
  split
  · omega
  · split <;> omega
theorem near_hi (n i : Nat) (hn : 3 ≤ n) (hi' : i < n) : (hi n i = i + 1) ∨ (hi n i - i = (n : Int) - 1) ∨ (hi n i = i - 1) := by
  unfold hi
  split
  · omega
  · split <;> omega

set_option maxRecDepth 100000 in
set_option maxHeartbeats 1600000 in
theorem cycle_mid (n : Nat) (hn3 : 3 ≤ n) (hn : n ≤ 65536) (w : World) :
    Calls Try.prog 3 #[.int .i64 n] w fun e w' => e = .returned (.bool true) ∧ Below w.heap.size w w' := by
  have hn1 : (n : Int) ≤ 65536 := by omega
  have hn2 : (3 : Int) ≤ n := by omega
  have t1 : decide ((65536 : Int) < n) = false := by simp; omega
  have t2 : decide ((n : Int) < 3) = false := by simp; omega
  go_enter Try.func3, Try.ntmps3
  go_wp2_with fail
  refine (ring_calls n hn3 hn w).mono ?_
  rintro e w1 ⟨gb, rfl, hring, hb⟩
  obtain ⟨ib, pb, V, hg, hids, hrow, hpeers⟩ := id hring
  have g0 : w1.cell? ⟨gb, 0, none⟩ = some (.slice (some ⟨ib, 0, none⟩) n n) := by simp [World.cell?, hg, graphObj]
  have g1 : w1.cell? ⟨gb, 1, none⟩ = some (.slice (some ⟨pb, 0, none⟩) n n) := by simp [World.cell?, hg, graphObj]
  have g2 : w1.cell? ⟨gb, 2, none⟩ = some (.int .i64 n) := by simp [World.cell?, hg, graphObj]
  have HR : Hid (w1.rowIs ib 32 n (idsAt n) ∧ w1.rowIs pb 33 n V ∧ (∀ j, j < n → ∃ g cap, V j = .slice (some ⟨g, 0, none⟩) 2 cap ∧ w1.cell? ⟨g, 0, none⟩ = some (.int .i64 (lo n j)) ∧ w1.cell? ⟨g, 1, none⟩ = some (.int .i64 (hi n j))) ∧ Below w.heap.size w w1) := ⟨hids, hrow, hpeers, hb⟩
  clear hg hids hrow hpeers hring hb
  go_wp2_with fail
  go_loopw [5] (fun i wr => ∃ k m : Nat, k ≤ n ∧ i = .int .i64 k ∧ wr = w1.drewN m) (fun i _ => n - (intOf i).toNat)
  case atStart => exact ⟨0, 0, Nat.zero_le _, rfl, rfl⟩
  case round =>
    obtain ⟨k, m, hk, rfl, rfl⟩ := hrel
    by_cases hlt : k < n
    · obtain ⟨hids, hrow, hpeers, _⟩ := HR.out
      have c0 : w1.cell? ⟨ib, k, none⟩ = some (.int .u64 k) := (hids.cell hlt).trans (by unfold idsAt; rw [if_pos hlt])
      obtain ⟨g, cap, hv, p0, p1⟩ := hpeers k hlt
      have c1 : w1.cell? ⟨pb, k, none⟩ = some (.slice (some ⟨g, 0, none⟩) 2 cap) := (hrow.cell hlt).trans (by rw [hv])
      have l1 := lo_ge n k
      have l2 := lo_lt_hi n k hn3 hlt
      have l3 := hi_lt n k hn3 hlt
      have n1 := near_lo n k hn3 hlt
      have n2 := near_hi n k hn3 hlt
      generalize lo n k = x0 at *
      generalize hi n k = x1 at *
      have HN : Hid ((x0 = k + 1 ∨ x0 - k = 1 - (n : Int) ∨ x0 = k - 1) ∧ (x1 = k + 1 ∨ x1 - k = (n : Int) - 1 ∨ x1 = k - 1)) := ⟨n1, n2⟩
      clear hids hrow hpeers hv n1 n2
      have hk1 : (k : Int) < n := by omega
      go_wp2_with fail
      have t3 : decide (x1 ≤ x0) = false := by simp; omega
      go_quiet (fail)
      rw [World.drewN_drewN]
      generalize m + nq = mq
      go_wp2_with fail
      go_loop [7] (fun i => ∃ r : Nat, r ≤ 2 ∧ i = .int .i64 r) (fun i => 2 - (intOf i).toNat)
      case atStart => exact ⟨0, by omega, rfl⟩
      case round =>
        obtain ⟨r, hr, rfl⟩ := hrel
        rcases (show r = 0 ∨ r = 1 ∨ r = 2 from by omega) with rfl | rfl | rfl
        · have hx0 : x0 < n := by omega
          rcases HN.out.1 with e | e | e
          · have e' := Int.le_of_eq e
            have e'' := Int.le_of_eq e.symm
            have z1 : (x0 - (k : Int) != 1) = false := by simp; omega
            clear e
            go_wp2_with fail
            go_round
            case rel => exact ⟨1, by omega, rfl⟩
            case measure => simp [intOf]
          · have e' := Int.le_of_eq e
            have e'' := Int.le_of_eq e.symm
            have z1 : (x0 - (k : Int) + n != 1) = false := by simp; omega
            clear e
            go_wp2_with fail
            go_round
            case rel => exact ⟨1, by omega, rfl⟩
            case measure => simp [intOf]
          · have e' := Int.le_of_eq e
            have e'' := Int.le_of_eq e.symm
            have z1 : (x0 - (k : Int) + n != 1) = true := by rw [bne_iff_ne]; omega
            have z2 : (x0 - (k : Int) + n != (n : Int) - 1) = false := by simp; omega
            clear e
            go_wp2_with fail
            go_round
            case rel => exact ⟨1, by omega, rfl⟩
            case measure => simp [intOf]
        · have hx0 : 0 ≤ x1 := by omega
          rcases HN.out.2 with e | e | e
          · have e' := Int.le_of_eq e
            have e'' := Int.le_of_eq e.symm
            have z1 : (x1 - (k : Int) != 1) = false := by simp; omega
            clear e
            go_wp2_with fail
            go_round
            case rel => exact ⟨2, by omega, rfl⟩
            case measure => simp [intOf]
          · have e' := Int.le_of_eq e
            have e'' := Int.le_of_eq e.symm
            have z1 : (x1 - (k : Int) != 1) = true := by rw [bne_iff_ne]; omega
            have z2 : (x1 - (k : Int) != (n : Int) - 1) = false := by simp; omega
            clear e
            go_wp2_with fail
            go_round
            case rel => exact ⟨2, by omega, rfl⟩
            case measure => simp [intOf]
          · have e' := Int.le_of_eq e
            have e'' := Int.le_of_eq e.symm
            have z1 : (x1 - (k : Int) + n != 1) = true := by rw [bne_iff_ne]; omega
            have z2 : (x1 - (k : Int) + n != (n : Int) - 1) = false := by simp; omega
            clear e
            go_wp2_with fail
            go_round
            case rel => exact ⟨2, by omega, rfl⟩
            case measure => simp [intOf]
        · go_wp2_with fail
          go_roundw
          case rel => exact ⟨k + 1, mq, by omega, by go_num, rfl⟩
          case measure => simp [intOf]; omega
    · go_wp2_with fail
      go_ret
      exact ⟨rfl, below_drewN HR.out.2.2.2 _⟩
end Go.Proofs.Qxb6630693a

import Derived.Test.Qxb6630740aNew
import Derived.Test.Qxb6630740aSorted
/- zzCovered, zzDistinctCount, the bound on lengths: the walks. -/
namespace Go.Proofs.Qxb6630740a
open Go.RowKit

theorem bytes_yes (src : ByteArray) (a : Option Addr) (n c : Nat) (w : World) (hs : src.size + n ≤ 1048576) :
    Calls Try.prog 14 #[.string src, .slice a n c] w fun e w' => e = .returned (.bool true) ∧ w' = w := by
  have h1 : (src.size : Int) + n ≤ 1048576 := by omega
  go_enter Try.func14, Try.ntmps14
  go_wp2
  go_ret
  exact ⟨rfl, rfl⟩

theorem bytes_no (src : ByteArray) (a : Option Addr) (n c : Nat) (w : World) (hs : ¬ src.size + n ≤ 1048576) (hm : src.size ≤ maxLen) (hn : n ≤ maxLen) :
    Calls Try.prog 14 #[.string src, .slice a n c] w fun e w' => e = .returned (.bool false) ∧ w' = w := by
  unfold maxLen at hm hn
  by_cases h1 : 1048576 < (src.size : Int)
  · go_enter Try.func14, Try.ntmps14
    go_wp2
    go_ret
    exact ⟨rfl, rfl⟩
  · by_cases h2 : 1048576 < (n : Int)
    · have h1' : (src.size : Int) ≤ 1048576 := by omega
      go_enter Try.func14, Try.ntmps14
      go_wp2
      go_ret
      exact ⟨rfl, rfl⟩
    · have h1' : (src.size : Int) ≤ 1048576 := by omega
      have h2' : (n : Int) ≤ 1048576 := by omega
      have h3 : 1048576 < (src.size : Int) + n := by omega
      go_enter Try.func14, Try.ntmps14
      go_wp2
      go_ret
      exact ⟨rfl, rfl⟩

set_option maxHeartbeats 400000 in
theorem covered_calls (a1 a2 : Option Addr) (n c1 c2 : Nat) (z1 z2 : List Int) (v : Int) (B : Nat) (w : World) (l1 : z1.length = n) (l2 : z2.length = n) (r1 : RowIn w B a1 z1) (r2 : RowIn w B a2 z2) (hn : n ≤ 1048577)
    (hcov : ∃ i, i < n ∧ z1.getD i 0 ≤ v ∧ v ≤ z2.getD i 0) :
    Calls Try.prog 15 #[.slice a1 n c1, .slice a2 n c2, .int .u64 v] w fun e w' => e = .returned (.bool true) ∧ w' = w := by
  have hn1 : (n : Int) ≤ 1048577 := by omega
  have HR : Hid (z1.length = n ∧ z2.length = n) := ⟨l1, l2⟩
  have HC : Hid (∃ i, i < n ∧ z1.getD i 0 ≤ v ∧ v ≤ z2.getD i 0) := hcov
  clear l1 l2 hcov
  go_enter Try.func15, Try.ntmps15
  go_wp2
  go_loop [7] (fun i => ∃ k : Nat, k ≤ n ∧ i = .int .i64 k ∧ ∀ j, j < k → ¬ (z1.getD j 0 ≤ v ∧ v ≤ z2.getD j 0)) (fun i => n - (intOf i).toNat)
  case atStart => exact ⟨0, Nat.zero_le _, rfl, fun j hj => absurd hj (Nat.not_lt_zero _)⟩
  case round =>
    obtain ⟨k, hk, rfl, hall⟩ := hrel
    have HA : Hid (∀ j, j < k → ¬ (z1.getD j 0 ≤ v ∧ v ≤ z2.getD j 0)) := hall
    clear hall
    by_cases hlt : k < n
    · obtain ⟨b1, o1, rfl, hb1, e1⟩ := r1.at (k := k) (by rw [HR.out.1]; exact hlt)
      obtain ⟨b2, o2, rfl, hb2, e2⟩ := r2.at (k := k) (by rw [HR.out.2]; exact hlt)
      have d1 := e1 k (by rw [HR.out.1]; exact hlt)
      have d2 := e2 k (by rw [HR.out.2]; exact hlt)
      clear e1 e2
      generalize hx1 : z1.getD k 0 = x1 at *
      generalize hx2 : z2.getD k 0 = x2 at *
      have HX : Hid (z1.getD k 0 = x1 ∧ z2.getD k 0 = x2) := ⟨hx1, hx2⟩
      clear hx1 hx2
      have hk1 : (k : Int) < n := by omega
      by_cases hin1 : x1 ≤ v
      · by_cases hin2 : v ≤ x2
        · go_wp2
          go_ret
          exact ⟨rfl, rfl⟩
        · have t2 : x2 < v := by omega
          go_wp2
          go_round
          case rel =>
            refine ⟨k + 1, by omega, by go_num, fun j hj => ?_⟩
            by_cases e : j = k
            · subst e; rw [HX.out.1, HX.out.2]; omega
            · exact HA.out j (by omega)
          case measure => simp [intOf]; omega
      · have t2 : v < x1 := by omega
        have t3 : decide (x1 ≤ v) = false := by simp; omega
        go_wp2
        go_round
        case rel =>
          refine ⟨k + 1, by omega, by go_num, fun j hj => ?_⟩
          by_cases e : j = k
          · subst e; rw [HX.out.1, HX.out.2]; omega
          · exact HA.out j (by omega)
        case measure => simp [intOf]; omega
    · obtain ⟨i, hi, h⟩ := HC.out
      exact absurd h (HA.out i (by omega))

end Go.Proofs.Qxb6630740a

import Derived.Test.Qxb6630693aRing
import Derived.Deep.QuietTactic
import Derived.BigQuiet
import Derived.WalkSmall
/- zzPairIs and zzSameInts at two numbers: the walks. -/
namespace Go.Proofs.Qxb6630693a
open Go.RowKit

set_option maxHeartbeats 400000 in
theorem pairIs_calls (g cap : Nat) (a b : Int) (w : World) (h0 : w.cell? ⟨g, 0, none⟩ = some (.int .i64 a)) (h1 : w.cell? ⟨g, 1, none⟩ = some (.int .i64 b)) :
    Calls Try.prog 7 #[.slice (some ⟨g, 0, none⟩) 2 cap, .int .i64 a, .int .i64 b] w fun e w' => e = .returned (.bool true) ∧ w' = w := by
  have t0 : (a == a) = true := by simp
  have t1 : (b == b) = true := by simp
  go_enter Try.func7, Try.ntmps7
  go_wp2
  go_ret
  exact ⟨rfl, rfl⟩

set_option maxRecDepth 100000 in
set_option maxHeartbeats 800000 in
theorem sameInts_calls (g1 g2 c1 c2 : Nat) (a b : Int) (w : World) (h10 : w.cell? ⟨g1, 0, none⟩ = some (.int .i64 a)) (h11 : w.cell? ⟨g1, 1, none⟩ = some (.int .i64 b))
    (h20 : w.cell? ⟨g2, 0, none⟩ = some (.int .i64 a)) (h21 : w.cell? ⟨g2, 1, none⟩ = some (.int .i64 b)) :
    Calls Try.prog 6 #[.slice (some ⟨g1, 0, none⟩) 2 c1, .slice (some ⟨g2, 0, none⟩) 2 c2] w fun e w' => e = .returned (.bool true) ∧ ∃ m, w' = w.drewN m := by
  have t0 : (a != a) = false := by simp
  have t1 : (b != b) = false := by simp
  go_enter Try.func6, Try.ntmps6
  go_wp2
  go_loopw [5] (fun i wr => ∃ r m : Nat, r ≤ 2 ∧ i = .int .i64 r ∧ wr = w.drewN m) (fun i _ => 2 - (intOf i).toNat)
  case atStart => exact ⟨0, 0, by omega, rfl, rfl⟩
  case round =>
    obtain ⟨r, m, hr, rfl, rfl⟩ := hrel
    rcases (show r = 0 ∨ r = 1 ∨ r = 2 from by omega) with rfl | rfl | rfl
    · go_wp2
      go_quiet (fail)
      rw [World.drewN_drewN]
      go_wp2
      go_roundw
      case rel => exact ⟨1, _, by omega, rfl, rfl⟩
      case measure => simp [intOf]
    · go_wp2
      go_quiet (fail)
      rw [World.drewN_drewN]
      go_wp2
      go_roundw
      case rel => exact ⟨2, _, by omega, rfl, rfl⟩
      case measure => simp [intOf]
    · go_wp2
      go_ret
      exact ⟨rfl, _, rfl⟩

/-- The same, as a region that draws meets it. -/
theorem sameInts_quiet (g1 g2 c1 c2 : Nat) (a b : Int) (m x : Nat) (w : World) (h10 : w.cell? ⟨g1, 0, none⟩ = some (.int .i64 a)) (h11 : w.cell? ⟨g1, 1, none⟩ = some (.int .i64 b))
    (h20 : w.cell? ⟨g2, 0, none⟩ = some (.int .i64 a)) (h21 : w.cell? ⟨g2, 1, none⟩ = some (.int .i64 b)) :
    Calls Try.prog 6 #[.slice (some ⟨g1, 0, none⟩) 2 c1, .slice (some ⟨g2, 0, none⟩) 2 c2] (w.drewN (m + x)) fun e w'' => e = .returned (.bool true) ∧ ∃ n, w'' = w.drewN (m + n) :=
  (sameInts_calls g1 g2 c1 c2 a b (w.drewN (m + x)) (by exact h10) (by exact h11) (by exact h20) (by exact h21)).mono fun _ _ ⟨he, j, hj⟩ => ⟨he, x + j, by rw [hj, World.drewN_drewN, Nat.add_assoc]⟩

end Go.Proofs.Qxb6630693a

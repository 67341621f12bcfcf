import Derived.Test.Qxb6630693aProg
import Derived.WalkKit
import Derived.WalkLawsBesides
import Derived.Deep.OwnRows
import Derived.KernelRfl
namespace Go.Proofs.Qxb6630693a
open Go.RowKit

theorem info32 : (Try.prog.info? 32).map (fun i => (i.zero, i.size, i.bytes)) = some (some (.int .u64 0), 1, 8) := by kernel_rfl

/-- The ids' row behind k rounds. -/
def idsAt (k i : Nat) : Value := if i < k then .int .u64 i else .int .u64 0

theorem idsAt_step {w : World} {b n k : Nat} (h : w.rowIs b 32 n (idsAt k)) : (w.setCell ⟨b, k, none⟩ (.int .u64 k)).rowIs b 32 n (idsAt (k + 1)) :=
  (h.set k (.int .u64 k)).congr fun i _ => by
    unfold idsAt
    by_cases e : i = k
    · subst e; simp
    · by_cases h2 : i < k
      · rw [if_neg e, if_pos h2, if_pos (by omega)]
      · rw [if_neg e, if_neg h2, if_neg (by omega)]

theorem numbered_calls (n : Nat) (hn : n ≤ 65536) (w : World) :
    Calls Try.prog 10 #[.int .i64 n] w fun e w' => e = .returned (.slice (some ⟨w.heap.size, 0, none⟩) n n) ∧ w'.rowIs w.heap.size 32 n (idsAt n) ∧ w'.heap.size = w.heap.size + 1 ∧ Below w.heap.size w w' := by
  have hmk := run_make_row' (P := Try.prog) 27 32 (.int .u64 0) 8 Try.underlying27 info32 rfl .i64 .i64 n (by omega) (by omega)
  have hn1 : (n : Int) ≤ 65536 := by omega
  go_enter Try.func10, Try.ntmps10
  go_wp2
  go_loopw [9] (fun i wr => ∃ k : Nat, k ≤ n ∧ i = .int .i64 k ∧ wr.rowIs w.heap.size 32 n (idsAt k) ∧ wr.heap.size = w.heap.size + 1 ∧ Below w.heap.size w wr) (fun i _ => n - (intOf i).toNat)
  case atStart => exact ⟨0, Nat.zero_le _, rfl, (World.rowIs_made w _ n 32).congr (fun i _ => by simp [idsAt]), by simp, (Below.refl _ _).alloc (Nat.le_refl _) _⟩
  case round =>
    obtain ⟨k, hk, rfl, hrow, hsz, hb⟩ := hrel
    by_cases hlt : k < n
    · have hc := hrow.cell hlt
      have hf := hrow.frozen k
      go_wp2
      go_roundw
      case rel => exact ⟨k + 1, by omega, by go_num, idsAt_step hrow, by simpa using hsz, hb.setCell (Nat.le_refl _) _⟩
      case measure => simp [intOf]; omega
    · go_wp2
      go_ret
      have : k = n := by omega
      subst this
      exact ⟨rfl, hrow, hsz, hb⟩
end Go.Proofs.Qxb6630693a

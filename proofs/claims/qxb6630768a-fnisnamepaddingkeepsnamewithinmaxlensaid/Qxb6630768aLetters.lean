import Derived.Test.Qxb6630768aName
/- The alphabet, and the bounds on lengths: the walks. -/
namespace Go.Proofs.Qxb6630768a
open Go.RowKit

theorem bytes1_yes (s : ByteArray) (w : World) (hs : s.size ≤ 1048576) :
    Calls Try.prog 5 #[.string s] w fun e w' => e = .returned (.bool true) ∧ w' = w := by
  have h1 : (s.size : Int) ≤ 1048576 := by omega
  go_enter Try.func5, Try.ntmps5
  go_wp2
  go_ret
  exact ⟨rfl, rfl⟩

theorem bytes1_no (s : ByteArray) (w : World) (hs : 1048576 < s.size) :
    Calls Try.prog 5 #[.string s] w fun e w' => e = .returned (.bool false) ∧ w' = w := by
  have h1 : 1048576 < (s.size : Int) := by omega
  go_enter Try.func5, Try.ntmps5
  go_wp2
  go_ret
  exact ⟨rfl, rfl⟩

theorem bytes3_yes (s : ByteArray) (n m : Int) (w : World) (hs : s.size ≤ 1048576) :
    Calls Try.prog 8 #[.string s, .int .i64 n, .int .i64 m] w fun e w' => e = .returned (.bool true) ∧ w' = w := by
  have h1 : (s.size : Int) ≤ 1048576 := by omega
  go_enter Try.func8, Try.ntmps8
  go_wp2
  go_ret
  exact ⟨rfl, rfl⟩

theorem bytes3_no (s : ByteArray) (n m : Int) (w : World) (hs : 1048576 < s.size) :
    Calls Try.prog 8 #[.string s, .int .i64 n, .int .i64 m] w fun e w' => e = .returned (.bool false) ∧ w' = w := by
  have h1 : 1048576 < (s.size : Int) := by omega
  go_enter Try.func8, Try.ntmps8
  go_wp2
  go_ret
  exact ⟨rfl, rfl⟩

theorem fold_all : ∀ n : Fin 256, n.val ≠ 95 → (decide (97 ≤ bits BinOp.or IntKind.u8 (n.val : Int) 32) && decide (bits BinOp.or IntKind.u8 (n.val : Int) 32 ≤ 122)) = nameB (n.val : Int) := by
  decide +kernel

theorem fold_is {c : Int} (h0 : 0 ≤ c) (h1 : c ≤ 255) (h2 : c ≠ 95) :
    (decide (97 ≤ bits BinOp.or IntKind.u8 c 32) && decide (bits BinOp.or IntKind.u8 c 32 ≤ 122)) = nameB c := by
  have := fold_all ⟨c.toNat, by omega⟩ (show c.toNat ≠ 95 by omega)
  rwa [show ((⟨c.toNat, by omega⟩ : Fin 256).val : Int) = c from by simp; omega] at this

theorem letter_calls (c : Int) (w : World) (h0 : 0 ≤ c) (h1 : c ≤ 255) :
    Calls Try.prog 6 #[.int .u8 c] w fun e w' => e = .returned (.bool (nameB c)) ∧ w' = w := by
  by_cases h2 : c = 95
  · subst h2
    go_enter Try.func6, Try.ntmps6
    go_wp2
    go_ret
    exact ⟨rfl, rfl⟩
  · have t1 : (c == 95) = false := by rw [beq_eq_false_iff_ne]; exact h2
    have hf := fold_is h0 h1 h2
    by_cases h3 : 97 ≤ bits BinOp.or IntKind.u8 c 32
    · rw [decide_eq_true h3, Bool.true_and] at hf
      rw [← hf]
      clear hf
      go_enter Try.func6, Try.ntmps6
      go_wp2
      go_ret
      exact ⟨rfl, rfl⟩
    · rw [decide_eq_false h3, Bool.false_and] at hf
      rw [← hf]
      clear hf
      go_enter Try.func6, Try.ntmps6
      go_wp2
      go_ret
      exact ⟨rfl, rfl⟩
end Go.Proofs.Qxb6630768a

import Derived.Test.Qxb6630809aMember
/- The bounds on lengths: the walks. -/
namespace Go.Proofs.Qxb6630809a
open Go.RowKit

/-- Every address below j has at most 2^20 bytes. -/
def Short (S : Nat → ByteArray) (j : Nat) : Prop := ∀ i, i < j → (S i).size ≤ 1048576

theorem Short.snoc {S : Nat → ByteArray} {j : Nat} (h : Short S j) (hs : (S j).size ≤ 1048576) : Short S (j + 1) := fun i hi => by
  by_cases e : i = j
  · rw [e]; exact hs
  · exact h i (by omega)

/-- It has answered with a bool; if true, every address is short. -/
def Says (S : Nat → ByteArray) (n : Nat) (e : Ending) : Prop := ∃ b : Bool, e = .returned (.bool b) ∧ (b = true → Short S n)

theorem Says.no {S : Nat → ByteArray} {n : Nat} : Says S n (.returned (.bool false)) := ⟨false, rfl, fun h => Bool.noConfusion h⟩
theorem Says.yes {S : Nat → ByteArray} {n : Nat} {b : Bool} (h : Short S n) : Says S n (.returned (.bool b)) := ⟨b, rfl, fun _ => h⟩

set_option maxRecDepth 100000 in
set_option maxHeartbeats 1600000 in
theorem bytes5_calls (x id k : Int) (a1 a2 a3 : Option Addr) (n1 c1 n2 c2 n3 c3 : Nat) (S : Nat → ByteArray) (w : World)
    (r2 : RowAt w w.heap.size a2 n2 (fun i => .string (S i))) :
    Calls Try.prog 5 #[.int .u64 x, .slice a1 n1 c1, .slice a2 n2 c2, .slice a3 n3 c3, .int .i64 k, .int .u16 id] w fun e w' => Says S n2 e ∧ w' = w := by
  by_cases h1 : 1048576 < (n1 : Int)
  · go_enter Try.func5, Try.ntmps5
    go_wp2
    go_ret
    exact ⟨Says.no, rfl⟩
  · have h1' : (n1 : Int) ≤ 1048576 := by omega
    by_cases h2 : 1048576 < (n2 : Int)
    · go_enter Try.func5, Try.ntmps5
      go_wp2
      go_ret
      exact ⟨Says.no, rfl⟩
    · have h2' : (n2 : Int) ≤ 1048576 := by omega
      by_cases h3 : 1048576 < (n1 : Int) + n2
      · go_enter Try.func5, Try.ntmps5
        go_wp2
        go_ret
        exact ⟨Says.no, rfl⟩
      · have h3' : (n1 : Int) + n2 ≤ 1048576 := by omega
        go_enter Try.func5, Try.ntmps5
        go_wp2_with fail
        go_loopw [13, 14] (fun z i wr => ∃ (j : Nat) (t : Int), j ≤ n2 ∧ i = .int .i64 j ∧ z = .int .i64 t ∧ 0 ≤ t ∧ t ≤ 1048576 ∧ Short S j ∧ wr = w) (fun _ i _ => n2 - (intOf i).toNat)
        case atStart => exact ⟨0, (n1 : Int) + n2, Nat.zero_le _, rfl, rfl, by omega, by omega, fun i hi => absurd hi (Nat.not_lt_zero _), rfl⟩
        case round =>
          obtain ⟨j, t, hj, rfl, rfl, ht0, ht1, hshort, rfl⟩ := hrel
          have HSH : Hid (Short S j) := hshort
          clear hshort
          by_cases hlt : j < n2
          · obtain ⟨b, off, rfl, hb, e⟩ := r2 (by omega)
            have d : wr.cell? ⟨b, off + j, none⟩ = some (.string (S j)) := e j hlt
            clear e
            generalize hsj : S j = s at *
            have HSJ : Hid (S j = s) := hsj
            clear hsj
            have hj1 : (j : Int) < n2 := by omega
            by_cases g1 : 1048576 < (s.size : Int)
            · go_wp2_with fail
              go_ret
              exact ⟨Says.no, rfl⟩
            · have g1' : (s.size : Int) ≤ 1048576 := by omega
              by_cases g2 : 1048576 < t + s.size
              · go_wp2_with fail
                go_ret
                exact ⟨Says.no, rfl⟩
              · have g2' : t + s.size ≤ 1048576 := by omega
                go_wp2_with fail
                go_roundw
                case rel => exact ⟨j + 1, t + s.size, by omega, by go_num, rfl, by omega, g2', HSH.out.snoc (by rw [HSJ.out]; omega), (by first | rfl | trivial)⟩
                case measure => simp [intOf]; omega
          · have hj1 : decide ((j : Int) < n2) = false := by simp; omega
            have HSN : Hid (Short S n2) := fun i hi => HSH.out i (by omega)
            by_cases g1 : 1048576 < (n3 : Int)
            · go_wp2_with fail
              go_ret
              exact ⟨Says.yes HSN.out, rfl⟩
            · have g1' : (n3 : Int) ≤ 1048576 := by omega
              by_cases g2 : 1048576 < t + n3
              · go_wp2_with fail
                go_ret
                exact ⟨Says.yes HSN.out, rfl⟩
              · have g2' : t + n3 ≤ 1048576 := by omega
                go_wp2_with fail
                go_ret
                exact ⟨Says.yes HSN.out, rfl⟩

/-- It has said whether the members fit; if they do, the ids are few. -/
def SaysFit (n : Nat) (e : Ending) : Prop := ∃ b : Bool, e = .returned (.bool b) ∧ (b = true → n ≤ 65536)

set_option maxRecDepth 100000 in
set_option maxHeartbeats 1600000 in
theorem fit_calls (x : Int) (a1 a2 a3 : Option Addr) (n1 c1 n2 c2 n3 c3 : Nat) (S : Nat → ByteArray) (w : World) (hs : Short S n2)
    (r2 : RowAt w w.heap.size a2 n2 (fun i => .string (S i))) (hx0 : 0 ≤ x) (hx1 : x ≤ 1048576) :
    Calls Try.prog 6 #[.slice a1 n1 c1, .slice a2 n2 c2, .slice a3 n3 c3, .int .i64 x] w fun e w' => SaysFit n1 e ∧ w' = w := by
  by_cases h1 : 65536 < (n1 : Int)
  · go_enter Try.func6, Try.ntmps6
    go_wp2
    go_ret
    exact ⟨⟨_, rfl, fun h => Bool.noConfusion h⟩, rfl⟩
  · have h1' : (n1 : Int) ≤ 65536 := by omega
    have HN : Hid (n1 ≤ 65536) := (show n1 ≤ 65536 by omega)
    by_cases h2 : 65536 < (n2 : Int)
    · go_enter Try.func6, Try.ntmps6
      go_wp2
      go_ret
      exact ⟨⟨_, rfl, fun _ => HN.out⟩, rfl⟩
    · have h2' : (n2 : Int) ≤ 65536 := by omega
      by_cases h3 : 65536 < (n3 : Int)
      · go_enter Try.func6, Try.ntmps6
        go_wp2
        go_ret
        exact ⟨⟨_, rfl, fun _ => HN.out⟩, rfl⟩
      · have h3' : (n3 : Int) ≤ 65536 := by omega
        by_cases h4 : 1048576 < x + 8 * (n1 : Int) + n3 + 16 * (n2 : Int)
        · go_enter Try.func6, Try.ntmps6
          go_wp2
          go_ret
          exact ⟨⟨_, rfl, fun _ => HN.out⟩, rfl⟩
        · have h4' : x + 8 * (n1 : Int) + n3 + 16 * (n2 : Int) ≤ 1048576 := by omega
          go_enter Try.func6, Try.ntmps6
          go_wp2_with fail
          go_loopw [9, 10] (fun z i wr => ∃ (j : Nat) (t : Int), j ≤ n2 ∧ i = .int .i64 j ∧ z = .int .i64 t ∧ 0 ≤ t ∧ t ≤ 1048576 ∧ wr = w) (fun _ i _ => n2 - (intOf i).toNat)
          case atStart => exact ⟨0, x + 8 * (n1 : Int) + n3 + 16 * (n2 : Int), Nat.zero_le _, rfl, rfl, by omega, by omega, rfl⟩
          case round =>
            obtain ⟨j, t, hj, rfl, rfl, ht0, ht1, rfl⟩ := hrel
            by_cases hlt : j < n2
            · obtain ⟨b, off, rfl, hb, e⟩ := r2 (by omega)
              have d : wr.cell? ⟨b, off + j, none⟩ = some (.string (S j)) := e j hlt
              have hsz := hs j hlt
              clear e hs
              generalize S j = s at *
              have hsz' : (s.size : Int) ≤ 1048576 := by omega
              have hj1 : (j : Int) < n2 := by omega
              by_cases g2 : 1048576 < t + s.size
              · go_wp2_with fail
                go_ret
                exact ⟨⟨_, rfl, fun _ => HN.out⟩, rfl⟩
              · have g2' : t + s.size ≤ 1048576 := by omega
                go_wp2_with fail
                go_roundw
                case rel => exact ⟨j + 1, t + s.size, by omega, by go_num, rfl, by omega, g2', (by first | rfl | trivial)⟩
                case measure => simp [intOf]; omega
            · have hj1 : decide ((j : Int) < n2) = false := by simp; omega
              go_wp2_with fail
              go_ret
              exact ⟨⟨_, rfl, fun _ => HN.out⟩, rfl⟩
end Go.Proofs.Qxb6630809a

import Derived.Test.Qxb6630768aRows
import Derived.WalkKit
import Derived.ProofKit
import Derived.WalkSpells
/- IsName, the alphabet and the bounds on lengths: the walks. -/
namespace Go.Proofs.Qxb6630768a
open Go.RowKit

/-- Byte k of a string, as a number (nought past the end). -/
def byteAt (s : ByteArray) (k : Nat) : Int := if h : k < s.size then ((s[k]'h).toNat : Int) else 0
theorem get_byteAt (s : ByteArray) : ∀ (n : Nat) (h : n < s.size), ((s[n]'h).toNat : Int) = byteAt s n := fun n h => by unfold byteAt; rw [dif_pos h]
theorem byteAt_nonneg (s : ByteArray) (k : Nat) : 0 ≤ byteAt s k := by unfold byteAt; split <;> omega
theorem byteAt_le (s : ByteArray) (k : Nat) : byteAt s k ≤ 255 := by
  unfold byteAt; split
  · have := (s[k]).toNat_lt; omega
  · omega

/-- May c stand in a name? -/
def nameB (c : Int) : Bool := decide (c = 95) || (decide (65 ≤ c) && decide (c ≤ 90)) || (decide (97 ≤ c) && decide (c ≤ 122))

/-- Every byte below k may stand in a name. -/
def NameTo (s : ByteArray) (k : Nat) : Prop := ∀ j, j < k → nameB (byteAt s j) = true

/-- The string is a name. -/
def IsNm (s : ByteArray) : Prop := 1 ≤ s.size ∧ s.size ≤ 64 ∧ NameTo s s.size

/-- The call has said whether s is a name. -/
def TellsNm (s : ByteArray) (e : Ending) : Prop := ∃ b : Bool, e = .returned (.bool b) ∧ (b = true ↔ IsNm s)

theorem NameTo.snoc {s : ByteArray} {k : Nat} (h : NameTo s k) (hb : nameB (byteAt s k) = true) : NameTo s (k + 1) := by
  intro j hj
  by_cases e : j = k
  · rw [e]; exact hb
  · exact h j (by omega)

theorem size_zero {s : ByteArray} (h : s.size = 0) : s = { data := #[] } := by
  cases s with | mk d =>
  simp [ByteArray.size] at h
  rw [h]

theorem toList_some {s : ByteArray} (h : s.size ≠ 0) : s.toList.isEmpty = false := by
  rw [Bool.eq_false_iff]
  intro e
  rw [List.isEmpty_iff] at e
  apply h
  cases s with | mk d =>
  rw [ByteArray.toList_eq] at e
  simp at e
  rw [e]; rfl

set_option maxRecDepth 100000 in
set_option maxHeartbeats 1600000 in
theorem isName_calls (s : ByteArray) (w : World) (hm : s.size ≤ maxLen) :
    Calls Try.prog 7 #[.string s] w fun e w' => TellsNm s e ∧ w' = w := by
  by_cases h0 : s.size = 0
  · obtain rfl := size_zero h0
    go_enter Try.func7, Try.ntmps7
    go_wp2
    go_ret
    exact ⟨⟨false, rfl, iff_of_false Bool.false_ne_true (fun h => absurd h.1 (by rw [h0]; omega))⟩, rfl⟩
  · have hne : s.toList.isEmpty = false := toList_some h0
    by_cases h64 : 64 < (s.size : Int)
    · go_enter Try.func7, Try.ntmps7
      go_wp2
      go_ret
      exact ⟨⟨false, rfl, by simp [IsNm]; omega⟩, rfl⟩
    · have h64' : (s.size : Int) ≤ 64 := by omega
      have hb := get_byteAt s
      go_enter Try.func7, Try.ntmps7
      go_wp2
      go_loopw [3] (fun i wr => ∃ k : Nat, k ≤ s.size ∧ i = .int .i64 k ∧ NameTo s k ∧ wr = w) (fun i _ => s.size - (intOf i).toNat)
      case atStart => exact ⟨0, Nat.zero_le _, rfl, fun j hj => absurd hj (Nat.not_lt_zero _), rfl⟩
      case round =>
        obtain ⟨k, hk, rfl, hall, rfl⟩ := hrel
        by_cases hlt : k < s.size
        · have hk1 : (k : Int) < s.size := by omega
          have hk2 : (k : Int) ≤ 64 := by omega
          have HA : Hid (NameTo s k) := hall
          clear hall
          have hbk := hb k
          clear hb
          generalize hc : byteAt s k = c at *
          have HX : Hid (byteAt s k = c) := hc
          clear hc
          by_cases h1 : c = 95
          · have t1 : (c != 95) = false := by simpa using h1
            go_wp2
            go_roundw
            case rel => exact ⟨k + 1, by omega, by go_num, HA.out.snoc (by rw [HX.out]; simp [nameB]; omega), (by first | rfl | trivial)⟩
            case measure => simp [intOf]; omega
          · have t1 : (c != 95) = true := by simpa using h1
            by_cases h2 : c < 65
            · have t2 : decide (c < 65) = true := by simp; omega
              have t4 : decide (c < 97) = true := by simp; omega
              go_wp2
              go_ret
              exact ⟨⟨false, rfl, iff_of_false Bool.false_ne_true (fun h => absurd (h.2.2 k hlt) (by rw [HX.out]; simp [nameB]; omega))⟩, rfl⟩
            · by_cases h3 : c ≤ 90
              · have t2 : decide (c < 65) = false := by simp; omega
                have t3 : decide (90 < c) = false := by simp; omega
                go_wp2
                go_roundw
                case rel => exact ⟨k + 1, by omega, by go_num, HA.out.snoc (by rw [HX.out]; simp [nameB]; omega), (by first | rfl | trivial)⟩
                case measure => simp [intOf]; omega
              · by_cases h4 : c < 97
                · have t2 : decide (c < 65) = false := by simp; omega
                  have t3 : decide (90 < c) = true := by simp; omega
                  have t4 : decide (c < 97) = true := by simp; omega
                  go_wp2
                  go_ret
                  exact ⟨⟨false, rfl, iff_of_false Bool.false_ne_true (fun h => absurd (h.2.2 k hlt) (by rw [HX.out]; simp [nameB]; omega))⟩, rfl⟩
                · by_cases h5 : c ≤ 122
                  · have t2 : decide (c < 65) = false := by simp; omega
                    have t3 : decide (90 < c) = true := by simp; omega
                    have t4 : decide (c < 97) = false := by simp; omega
                    have t5 : decide (122 < c) = false := by simp; omega
                    go_wp2
                    go_roundw
                    case rel => exact ⟨k + 1, by omega, by go_num, HA.out.snoc (by rw [HX.out]; simp [nameB]; omega), (by first | rfl | trivial)⟩
                    case measure => simp [intOf]; omega
                  · have t2 : decide (c < 65) = false := by simp; omega
                    have t3 : decide (90 < c) = true := by simp; omega
                    have t4 : decide (c < 97) = false := by simp; omega
                    have t5 : decide (122 < c) = true := by simp; omega
                    go_wp2
                    go_ret
                    exact ⟨⟨false, rfl, iff_of_false Bool.false_ne_true (fun h => absurd (h.2.2 k hlt) (by rw [HX.out]; simp [nameB]; omega))⟩, rfl⟩
        · have hkn : k = s.size := by omega
          subst hkn
          go_wp2
          go_ret
          exact ⟨⟨true, rfl, iff_of_true rfl ⟨by omega, by omega, hall⟩⟩, rfl⟩
end Go.Proofs.Qxb6630768a

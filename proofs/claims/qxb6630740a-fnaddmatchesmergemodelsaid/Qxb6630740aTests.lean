import Derived.Test.Qxb6630740aNew
import Derived.Test.Qxb6630740aMerge
import Derived.WalkSmall
/- zzEqualU64, zzCanonical, the bound on lengths: the walks. -/
namespace Go.Proofs.Qxb6630740a
open Go.RowKit

theorem bytesM_yes (src : ByteArray) (a1 a2 : Option Addr) (n1 c1 n2 c2 : Nat) (x : Int) (w : World) (hs : src.size + n1 + n2 ≤ 1048576) :
    Calls Try.prog 5 #[.string src, .slice a1 n1 c1, .slice a2 n2 c2, .int .u64 x] w fun e w' => e = .returned (.bool true) ∧ w' = w := by
  have h1 : (src.size : Int) + n1 + n2 ≤ 1048576 := by omega
  go_enter Try.func5, Try.ntmps5
  go_wp2
  go_ret
  exact ⟨rfl, rfl⟩

set_option maxHeartbeats 400000 in
theorem bytesM_no (src : ByteArray) (a1 a2 : Option Addr) (n1 c1 n2 c2 : Nat) (x : Int) (w : World) (hs : ¬ src.size + n1 + n2 ≤ 1048576) (hm : src.size ≤ maxLen) (hn1 : n1 ≤ maxLen) (hn2 : n2 ≤ maxLen) :
    Calls Try.prog 5 #[.string src, .slice a1 n1 c1, .slice a2 n2 c2, .int .u64 x] w fun e w' => e = .returned (.bool false) ∧ w' = w := by
  unfold maxLen at hm hn1 hn2
  by_cases h1 : 1048576 < (src.size : Int)
  · go_enter Try.func5, Try.ntmps5
    go_wp2
    go_ret
    exact ⟨rfl, rfl⟩
  · have h1' : (src.size : Int) ≤ 1048576 := by omega
    by_cases h2 : 1048576 < (n1 : Int)
    · go_enter Try.func5, Try.ntmps5
      go_wp2
      go_ret
      exact ⟨rfl, rfl⟩
    · have h2' : (n1 : Int) ≤ 1048576 := by omega
      by_cases h3 : 1048576 < (src.size : Int) + n1
      · go_enter Try.func5, Try.ntmps5
        go_wp2
        go_ret
        exact ⟨rfl, rfl⟩
      · have h3' : (src.size : Int) + n1 ≤ 1048576 := by omega
        by_cases h4 : 1048576 < (n2 : Int)
        · go_enter Try.func5, Try.ntmps5
          go_wp2
          go_ret
          exact ⟨rfl, rfl⟩
        · have h4' : (n2 : Int) ≤ 1048576 := by omega
          have h5 : 1048576 < (src.size : Int) + n1 + n2 := by omega
          go_enter Try.func5, Try.ntmps5
          go_wp2
          go_ret
          exact ⟨rfl, rfl⟩

set_option maxHeartbeats 800000 in
theorem equal_calls (a1 a2 : Option Addr) (n c1 c2 : Nat) (zs : List Int) (B : Nat) (w : World) (hl : zs.length = n) (r1 : RowIn w B a1 zs) (r2 : RowIn w B a2 zs) (hn : n ≤ 1048577) :
    Calls Try.prog 13 #[.slice a1 n c1, .slice a2 n c2] w fun e w' => e = .returned (.bool true) ∧ ∃ d, w' = w.drewN d := by
  have hn1 : (n : Int) ≤ 1048577 := by omega
  have HR : Hid (zs.length = n) := hl
  clear hl
  go_enter Try.func13, Try.ntmps13
  go_wp2
  go_loopw [5] (fun i wr => ∃ k d : Nat, k ≤ n ∧ i = .int .i64 k ∧ wr = w.drewN d) (fun i _ => n - (intOf i).toNat)
  case atStart => exact ⟨0, 0, Nat.zero_le _, rfl, rfl⟩
  case round =>
    obtain ⟨k, d, hk, rfl, rfl⟩ := hrel
    by_cases hlt : k < n
    · obtain ⟨b1, o1, rfl, hb1, e1⟩ := r1.at (k := k) (by rw [HR.out]; exact hlt)
      obtain ⟨b2, o2, rfl, hb2, e2⟩ := r2.at (k := k) (by rw [HR.out]; exact hlt)
      have d1 := e1 k (by rw [HR.out]; exact hlt)
      have d2 := e2 k (by rw [HR.out]; exact hlt)
      clear e1 e2
      generalize zs.getD k 0 = x at *
      have hk1 : (k : Int) < n := by omega
      have t1 : (x != x) = false := by simp
      go_wp2_with fail
      go_quiet (fail)
      rw [World.drewN_drewN]
      go_wp2_with fail
      go_roundw
      case rel => exact ⟨k + 1, _, by omega, by go_num, rfl⟩
      case measure => simp [intOf]; omega
    · go_wp2
      go_ret
      exact ⟨rfl, d, rfl⟩

/-- What zzCanonical asks of one place. -/
def OkAt (z1 z2 : List Int) (k : Nat) : Prop := z1.getD k 0 ≤ z2.getD k 0 ∧ z2.getD k 0 ≠ 18446744073709551615 ∧ (0 < k → z2.getD (k - 1) 0 + 1 < z1.getD k 0)

/-- zzCanonical: either it says no, or every place is in order. -/
def OkTo (z1 z2 : List Int) (k : Nat) : Prop := ∀ j, j < k → OkAt z1 z2 j

set_option maxRecDepth 100000 in
set_option maxHeartbeats 1600000 in
theorem canonical_calls (a1 a2 : Option Addr) (n c1 c2 : Nat) (z1 z2 : List Int) (B : Nat) (w : World) (l1 : z1.length = n) (l2 : z2.length = n) (r1 : RowIn w B a1 z1) (r2 : RowIn w B a2 z2) (hn : n ≤ 1048577)
    (b1 : ∀ x ∈ z1, 0 ≤ x ∧ x ≤ 18446744073709551615) (b2 : ∀ x ∈ z2, 0 ≤ x ∧ x ≤ 18446744073709551615) :
    Calls Try.prog 6 #[.slice a1 n c1, .slice a2 n c2] w fun e w' => (e = .returned (.bool false) ∨ (e = .returned (.bool true) ∧ OkTo z1 z2 n)) ∧ ∃ d, w' = w.drewN d := by
  have hn1 : (n : Int) ≤ 1048577 := by omega
  have HR : Hid (z1.length = n ∧ z2.length = n ∧ (∀ x ∈ z1, 0 ≤ x ∧ x ≤ 18446744073709551615) ∧ ∀ x ∈ z2, 0 ≤ x ∧ x ≤ 18446744073709551615) := ⟨l1, l2, b1, b2⟩
  clear l1 l2 b1 b2
  go_enter Try.func6, Try.ntmps6
  go_wp2
  go_loopw [5] (fun i wr => ∃ k d : Nat, k ≤ n ∧ i = .int .i64 k ∧ OkTo z1 z2 k ∧ wr = w.drewN d) (fun i _ => n - (intOf i).toNat)
  case atStart => exact ⟨0, 0, Nat.zero_le _, rfl, fun j hj => absurd hj (Nat.not_lt_zero _), rfl⟩
  case round =>
    obtain ⟨k, d, hk, rfl, hall, rfl⟩ := hrel
    have HA : Hid (OkTo z1 z2 k) := hall
    clear hall
    by_cases hlt : k < n
    · have m1 : z1.getD k 0 ∈ z1 := by rw [show z1.getD k 0 = z1[k]'(by rw [HR.out.1]; exact hlt) from by simp [List.getD, show k < z1.length by rw [HR.out.1]; exact hlt]]; exact List.getElem_mem _
      have m2 : z2.getD k 0 ∈ z2 := by rw [show z2.getD k 0 = z2[k]'(by rw [HR.out.2.1]; exact hlt) from by simp [List.getD, show k < z2.length by rw [HR.out.2.1]; exact hlt]]; exact List.getElem_mem _
      have q1 := HR.out.2.2.1 _ m1
      have q2 := HR.out.2.2.2 _ m2
      obtain ⟨b1, o1, rfl, hb1, e1⟩ := r1.at (k := k) (by rw [HR.out.1]; exact hlt)
      obtain ⟨b2, o2, rfl, hb2, e2⟩ := r2.at (k := k) (by rw [HR.out.2.1]; exact hlt)
      have d1 := e1 k (by rw [HR.out.1]; exact hlt)
      have d2 := e2 k (by rw [HR.out.2.1]; exact hlt)
      have HE2 : Hid (∀ i, i < z2.length → w.cell? ⟨b2, o2 + i, none⟩ = some (.int .u64 (z2.getD i 0))) := e2
      clear e1 e2 m1 m2
      generalize hx1 : z1.getD k 0 = x1 at *
      generalize hx2 : z2.getD k 0 = x2 at *
      have HX : Hid (z1.getD k 0 = x1 ∧ z2.getD k 0 = x2) := ⟨hx1, hx2⟩
      clear hx1 hx2
      have hk1 : (k : Int) < n := by omega
      by_cases hle : x1 ≤ x2
      · have t1 : decide (x2 < x1) = false := by simp; omega
        by_cases hmx : x2 = 18446744073709551615
        · have t2 : (x2 == 18446744073709551615) = true := by rw [beq_iff_eq]; exact hmx
          clear hmx
          go_wp2_with fail
          go_quiet (fail)
          rw [World.drewN_drewN]
          go_wp2_with fail
          go_ret
          exact ⟨.inl rfl, _, rfl⟩
        · have t2 : (x2 == 18446744073709551615) = false := by rw [beq_eq_false_iff_ne]; exact hmx
          have HM : Hid (x2 ≠ 18446744073709551615) := hmx
          clear hmx
          match k, hk, hlt, d1, d2, hk1, HX, HA with
          | 0, hk, hlt, d1, d2, hk1, HX, HA =>
            have t3 : decide ((0 : Int) < ((0 : Nat) : Int)) = false := by simp
            rw [Nat.add_zero] at d1 d2
            go_wp2_with fail
            go_quiet (fail)
            rw [World.drewN_drewN]
            go_wp2_with fail
            go_quiet (fail)
            rw [World.drewN_drewN]
            go_wp2_with fail
            go_roundw
            case rel =>
              refine ⟨1, _, by omega, rfl, fun j hj => ?_, rfl⟩
              obtain rfl : j = 0 := by omega
              exact ⟨by rw [HX.out.1, HX.out.2]; exact hle, by rw [HX.out.2]; exact HM.out, fun h => absurd h (Nat.lt_irrefl _)⟩
            case measure => simp [intOf]; omega
          | p + 1, hk, hlt, d1, d2, hk1, HX, HA =>
            have d3 := HE2.out p (by rw [HR.out.2.1]; omega)
            have hprev := HA.out p (by omega)
            have hpm := hprev.2.1
            have q3 : 0 ≤ z2.getD p 0 ∧ z2.getD p 0 ≤ 18446744073709551615 := by
              have hp : p < z2.length := by rw [HR.out.2.1]; omega
              rw [show z2.getD p 0 = z2[p] from by simp [List.getD, hp]]
              exact HR.out.2.2.2 _ (List.getElem_mem hp)
            have q4 : z2.getD p 0 < 18446744073709551615 := by omega
            generalize hx3 : z2.getD p 0 = x3 at *
            have HX3 : Hid (z2.getD p 0 = x3) := hx3
            clear hx3 hpm hprev
            have hp1 : (0 : Int) ≤ (p : Int) := by omega
            have hp2 : (p : Int) < n := by omega
            have hp3 : (p : Int) + 1 < n := by omega
            have hp4 : (0 : Int) < (p : Int) + 1 := by omega
            have t3 : decide ((0 : Int) < (p : Int) + 1) = true := decide_eq_true hp4
            by_cases hgap : x3 + 1 < x1
            · have t4 : decide (x1 ≤ x3 + 1) = false := by simp; omega
              go_wp2_with fail
              go_quiet (fail)
              rw [World.drewN_drewN]
              go_wp2_with fail
              go_quiet (fail)
              rw [World.drewN_drewN]
              go_wp2_with fail
              go_roundw
              case rel =>
                refine ⟨p + 1 + 1, _, by omega, by go_num, fun j hj => ?_, rfl⟩
                by_cases e : j = p + 1
                · subst e
                  exact ⟨by rw [HX.out.1, HX.out.2]; exact hle, by rw [HX.out.2]; exact HM.out, fun _ => by rw [Nat.add_sub_cancel, HX3.out, HX.out.1]; exact hgap⟩
                · exact HA.out j (by omega)
              case measure => simp [intOf]; omega
            · have t4 : decide (x1 ≤ x3 + 1) = true := by simp; omega
              go_wp2_with fail
              go_quiet (fail)
              rw [World.drewN_drewN]
              go_wp2_with fail
              go_quiet (fail)
              rw [World.drewN_drewN]
              go_wp2_with fail
              go_ret
              exact ⟨.inl rfl, _, rfl⟩
      · have t1 : decide (x2 < x1) = true := by simp; omega
        go_wp2_with fail
        go_quiet (fail)
        rw [World.drewN_drewN]
        go_wp2_with fail
        go_ret
        exact ⟨.inl rfl, _, rfl⟩
    · have hkn : k = n := by omega
      subst hkn
      go_wp2
      go_ret
      exact ⟨.inr ⟨rfl, HA.out⟩, d, rfl⟩

end Go.Proofs.Qxb6630740a

import Derived.Test.Qxb6630809aFits
/- The bound on lengths of the second law: the walk. -/
namespace Go.Proofs.Qxb6630809a
open Go.RowKit

set_option maxRecDepth 100000 in
set_option maxHeartbeats 1600000 in
theorem bytes9_calls (x id k q : Int) (ad : ByteArray) (vo : Bool) (a1 a2 a3 : Option Addr) (n1 c1 n2 c2 n3 c3 : Nat) (S : Nat → ByteArray) (w : World)
    (r2 : RowAt w w.heap.size a2 n2 (fun i => .string (S i))) :
    Calls Try.prog 9 #[.int .u64 x, .slice a1 n1 c1, .slice a2 n2 c2, .slice a3 n3 c3, .int .i64 k, .int .u16 id, .string ad, .bool vo, .int .u16 q] w fun e w' => Says S n2 e ∧ w' = w := by
  by_cases h1 : 1048576 < (n1 : Int)
  · go_enter Try.func9, Try.ntmps9
    go_wp2
    go_ret
    exact ⟨Says.no, rfl⟩
  · have h1' : (n1 : Int) ≤ 1048576 := by omega
    by_cases h2 : 1048576 < (n2 : Int)
    · go_enter Try.func9, Try.ntmps9
      go_wp2
      go_ret
      exact ⟨Says.no, rfl⟩
    · have h2' : (n2 : Int) ≤ 1048576 := by omega
      by_cases h3 : 1048576 < (n1 : Int) + n2
      · go_enter Try.func9, Try.ntmps9
        go_wp2
        go_ret
        exact ⟨Says.no, rfl⟩
      · have h3' : (n1 : Int) + n2 ≤ 1048576 := by omega
        go_enter Try.func9, Try.ntmps9
        go_wp2_with fail
        go_loopw [19, 20] (fun z i wr => ∃ (j : Nat) (t : Int), j ≤ n2 ∧ i = .int .i64 j ∧ z = .int .i64 t ∧ 0 ≤ t ∧ t ≤ 1048576 ∧ Short S j ∧ wr = w) (fun _ i _ => n2 - (intOf i).toNat)
        case atStart => exact ⟨0, (n1 : Int) + n2, Nat.zero_le _, rfl, rfl, by omega, by omega, fun i hi => absurd hi (Nat.not_lt_zero _), rfl⟩
        case round =>
          obtain ⟨j, t, hj, rfl, rfl, ht0, ht1, hshort, rfl⟩ := hrel
          have HSH : Hid (Short S j) := hshort
          clear hshort
          by_cases hlt : j < n2
          · obtain ⟨b, off, rfl, hb, e⟩ := r2 (by omega)
            have d : wr.cell? ⟨b, off + j, none⟩ = some (.string (S j)) := e j hlt
            clear e
            generalize hsj : S j = s at *
            have HSJ : Hid (S j = s) := hsj
            clear hsj
            have hj1 : (j : Int) < n2 := by omega
            by_cases g1 : 1048576 < (s.size : Int)
            · go_wp2_with fail
              go_ret
              exact ⟨Says.no, rfl⟩
            · have g1' : (s.size : Int) ≤ 1048576 := by omega
              by_cases g2 : 1048576 < t + s.size
              · go_wp2_with fail
                go_ret
                exact ⟨Says.no, rfl⟩
              · have g2' : t + s.size ≤ 1048576 := by omega
                go_wp2_with fail
                go_roundw
                case rel => exact ⟨j + 1, t + s.size, by omega, by go_num, rfl, by omega, g2', HSH.out.snoc (by rw [HSJ.out]; omega), (by first | rfl | trivial)⟩
                case measure => simp [intOf]; omega
          · have hj1 : decide ((j : Int) < n2) = false := by simp; omega
            have HSN : Hid (Short S n2) := fun i hi => HSH.out i (by omega)
            by_cases g1 : 1048576 < (n3 : Int)
            · go_wp2_with fail
              go_ret
              exact ⟨Says.yes HSN.out, rfl⟩
            · have g1' : (n3 : Int) ≤ 1048576 := by omega
              by_cases g2 : 1048576 < t + n3
              · go_wp2_with fail
                go_ret
                exact ⟨Says.yes HSN.out, rfl⟩
              · have g2' : t + n3 ≤ 1048576 := by omega
                by_cases g3 : 1048576 < (ad.size : Int)
                · go_wp2_with fail
                  go_ret
                  exact ⟨Says.yes HSN.out, rfl⟩
                · have g3' : (ad.size : Int) ≤ 1048576 := by omega
                  by_cases g4 : 1048576 < t + n3 + ad.size
                  · go_wp2_with fail
                    go_ret
                    exact ⟨Says.yes HSN.out, rfl⟩
                  · have g4' : t + n3 + ad.size ≤ 1048576 := by omega
                    go_wp2_with fail
                    go_ret
                    exact ⟨Says.yes HSN.out, rfl⟩

end Go.Proofs.Qxb6630809a

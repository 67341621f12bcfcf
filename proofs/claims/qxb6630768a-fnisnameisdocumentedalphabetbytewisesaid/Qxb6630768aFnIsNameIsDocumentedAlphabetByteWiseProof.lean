import Derived.Test.Qxb6630768aLetters
import Derived.WalkKit
import Derived.WalkSmall
import Derived.Deep.QuietTactic
import Derived.ProofKit
import Derived.OpenShut
import Derived.ShutString
namespace Go.Proofs.Qxb6630768a.fnIsNameIsDocumentedAlphabetByteWise
open Go.ChangeShapes Go.WideShapes Go.ChangeAt Go.RowKit
open Go.ChangeMaps (open_string shut_string)
set_option linter.unusedVariables false      -- a walk need not use every 'w<i>' (that an integer argument fits its kind)

theorem own : ownKnob Try.prog.godebug = none := by kernel_rfl

theorem one_iff (s : ByteArray) (k : Nat) (h : k < s.size) : IsNm (s.extract k (k + 1)) ↔ nameB (byteAt s k) = true := by
  have hsz : (s.extract k (k + 1)).size = 1 := by rw [ByteArray.size_extract]; omega
  have hb : byteAt (s.extract k (k + 1)) 0 = byteAt s k := by
    unfold byteAt
    rw [dif_pos (by omega), dif_pos h]
    simp [ByteArray.getElem_extract]
  unfold IsNm NameTo
  rw [hsz]
  constructor
  · intro hh; rw [← hb]; exact hh.2.2 0 (by omega)
  · intro hh; exact ⟨by omega, by omega, fun j hj => by obtain rfl : j = 0 := by omega
                                                        rw [hb]; exact hh⟩

/-- Whether every byte below k may stand in a name, as the loop keeps it. -/
def AllTo (s : ByteArray) (k : Nat) (b : Bool) : Prop := b = true ↔ NameTo s k

theorem AllTo.yes {s : ByteArray} {k : Nat} {b : Bool} (h : AllTo s k b) (hb : nameB (byteAt s k) = true) : AllTo s (k + 1) b := by
  constructor
  · intro e; exact (h.1 e).snoc hb
  · intro hh; exact h.2 (fun j hj => hh j (by omega))

theorem AllTo.no {s : ByteArray} {k : Nat} (hb : nameB (byteAt s k) = false) : AllTo s (k + 1) false :=
  iff_of_false Bool.false_ne_true (fun hh => by rw [hh k (by omega)] at hb; cases hb)

set_option maxRecDepth 100000 in
set_option maxHeartbeats 1600000 in
theorem walk (a0 : ByteArray) (w0 : a0.size ≤ maxLen) (w : World) :
    Calls Try.prog 3 #[.string a0] w fun e w' => e = .returned (.bool true) ∧ ∃ d, w' = w.drewN d := by
  by_cases h1 : a0.size ≤ 1048576
  · by_cases h2 : a0.size ≤ 65536
    · have h2' : (a0.size : Int) ≤ 65536 := by omega
      have hb := get_byteAt a0
      go_enter Try.func3, Try.ntmps3
      go_wp2_with fail
      refine (bytes1_yes a0 w h1).mono ?_
      rintro e w' ⟨rfl, rfl⟩
      go_wp2_with fail
      go_loopw [3, 4] (fun b i wr => ∃ (k d : Nat) (bb : Bool), k ≤ a0.size ∧ b = .bool bb ∧ i = .int .i64 k ∧ AllTo a0 k bb ∧ wr = w'.drewN d) (fun _ i _ => a0.size - (intOf i).toNat)
      case atStart => exact ⟨0, 0, true, Nat.zero_le _, rfl, rfl, iff_of_true rfl (fun j hj => absurd hj (Nat.not_lt_zero _)), rfl⟩
      case round =>
        obtain ⟨k, d, bb, hk, rfl, rfl, hall, rfl⟩ := hrel
        have HA : Hid (AllTo a0 k bb) := hall
        clear hall
        by_cases hlt : k < a0.size
        · have hk1 : (k : Int) < a0.size := by omega
          have hk2 : (k : Int) + 1 ≤ a0.size := by omega
          have hbk := hb k
          clear hb
          have q1 := byteAt_nonneg a0 k
          have q2 := byteAt_le a0 k
          have HI : Hid (IsNm (a0.extract k (k + 1)) ↔ nameB (byteAt a0 k) = true) := one_iff a0 k hlt
          generalize hc : byteAt a0 k = c at *
          have HX : Hid (byteAt a0 k = c) := hc
          clear hc
          have hsub : (a0.extract k (k + 1)).size ≤ maxLen := by rw [ByteArray.size_extract]; unfold maxLen; omega
          go_wp2_with fail
          refine (letter_calls c _ q1 q2).mono ?_
          rintro e w2 ⟨rfl, rfl⟩
          go_wp2_with fail
          refine (isName_calls (a0.extract k (k + 1)) _ hsub).mono ?_
          rintro e w3 ⟨⟨b, rfl, hbi⟩, rfl⟩
          have hbn : b = nameB c := by
            rw [Bool.eq_iff_iff, hbi, HI.out]
          subst hbn
          clear hbi
          generalize hn : nameB c = x at *
          have HN : Hid (nameB c = x) := hn
          clear hn
          cases x with
          | true =>
            go_wp2_with fail
            go_roundw
            case rel => exact ⟨k + 1, d, bb, by omega, rfl, by go_num, HA.out.yes (by rw [HX.out]; exact HN.out), rfl⟩
            case measure => simp [intOf]; omega
          | false =>
            go_wp2_with fail
            go_roundw
            case rel => exact ⟨k + 1, d, false, by omega, rfl, by go_num, AllTo.no (by rw [HX.out]; exact HN.out), rfl⟩
            case measure => simp [intOf]; omega
        · have hkn : k = a0.size := by omega
          subst hkn
          clear hb
          have HW : Hid (∀ b : Bool, (b = true ↔ IsNm a0) → (decide (1 ≤ (a0.size : Int)) && decide ((a0.size : Int) ≤ 64) && bb) = b) := by
            intro b hbi
            rw [Bool.eq_iff_iff, hbi]
            simp only [Bool.and_eq_true, decide_eq_true_eq]
            have ha : bb = true ↔ NameTo a0 a0.size := HA.out
            rw [ha]
            unfold IsNm
            constructor
            · rintro ⟨⟨e1, e2⟩, e3⟩; exact ⟨by omega, by omega, e3⟩
            · rintro ⟨e1, e2, e3⟩; exact ⟨⟨by omega, by omega⟩, e3⟩
          by_cases g1 : 1 ≤ (a0.size : Int)
          · by_cases g2 : (a0.size : Int) ≤ 64
            · go_wp2_with fail
              refine (isName_calls a0 _ w0).mono ?_
              rintro e w3 ⟨⟨b, rfl, hbi⟩, rfl⟩
              have hw := HW.out b hbi
              rw [decide_eq_true g1, decide_eq_true g2, Bool.true_and, Bool.true_and] at hw
              subst hw
              go_wp2_with fail
              go_ret
              exact ⟨by simp, _, rfl⟩
            · go_wp2_with fail
              refine (isName_calls a0 _ w0).mono ?_
              rintro e w3 ⟨⟨b, rfl, hbi⟩, rfl⟩
              have hw := HW.out b hbi
              rw [decide_eq_true g1, decide_eq_false (Int.not_le.mpr g2), Bool.true_and, Bool.false_and] at hw
              subst hw
              go_wp2_with fail
              go_ret
              exact ⟨by simp, _, rfl⟩
          · go_wp2_with fail
            refine (isName_calls a0 _ w0).mono ?_
            rintro e w3 ⟨⟨b, rfl, hbi⟩, rfl⟩
            have hw := HW.out b hbi
            rw [decide_eq_false (Int.not_le.mpr g1), Bool.false_and, Bool.false_and] at hw
            subst hw
            go_wp2_with fail
            go_ret
            exact ⟨by simp, _, rfl⟩
    · have h2' : 65536 < (a0.size : Int) := by omega
      go_enter Try.func3, Try.ntmps3
      go_wp2_with fail
      refine (bytes1_yes a0 w h1).mono ?_
      rintro e w ⟨rfl, rfl⟩
      go_wp2_with fail
      go_ret
      exact ⟨rfl, 0, rfl⟩
  · go_enter Try.func3, Try.ntmps3
    go_wp2_with fail
    refine (bytes1_no a0 w (by omega)).mono ?_
    rintro e w ⟨rfl, rfl⟩
    go_wp2_with fail
    go_ret
    exact ⟨rfl, 0, rfl⟩

/-! ### THE ROW's STEP: WRITTEN OUT: LEAVE IT -/
set_option maxRecDepth 100000 in
theorem lifted (os : Os) (started : os.Started) (H : Type) (enc : TypeId × Value → H) :
    ReturnsInHanded {} Try.checked os 3 .any (Rows.fnIsNameIsDocumentedAlphabetByteWiseSpec.pre6 enc Try.prog Try.f3 Rows.fnIsNameIsDocumentedAlphabetByteWiseRow.domain false) (Rows.fnIsNameIsDocumentedAlphabetByteWiseSpec.post enc Try.prog Try.f3 false true false false) := by
  refine returnsInHanded_of_change (C := Try.checked) own started (by kernel_rfl) Try.func3
    (ChangeSpec.witness6 (enc := enc) (C := Try.checked) false ⟨#[], #[.string ByteArray.empty], []⟩ 8 (by kernel_rfl) (by kernel_rfl) (by kernel_rfl) (by kernel_rfl)) ?_
  intro W base args ds gs before hval0 hW hcnd _
  have hval : ∀ (j : Nat) t v, Try.f3.params[j]? = some t → args[j]? = some v → Value.okWide Try.prog W .any base t v := hval0
  have hW' := hW
  obtain ⟨p, q, hA0, hV, rfl, hfz, hnd⟩ := hW
  have hA : DataW.TrodAll enc Try.prog W 0 (fun _ => true) true Try.f3.params.toList args.toList ds p := hA0
  rw [Try.params3] at hA hval
  obtain ⟨v0, vs0, d0, ds0, p0, q0, hargs, rfl, rfl, h0, r0⟩ := trodAll_cons hA
  obtain ⟨rfl, rfl, rfl⟩ := trodAll_nil r0
  obtain rfl : args = #[v0] := by cases args; simp_all
  obtain ⟨rfl, rfl⟩ := trodVars_none hV
  obtain ⟨a0, rfl, rfl, rfl, w0⟩ := open_string Try.underlying9 (hval 0 9 v0 rfl rfl) h0
  clear hA0 hval0
  refine (walk a0 w0 W).mono fun e W' ⟨he, d, hd⟩ => ?_
  subst he
  subst hd
  have bel : Below W.heap.size W (W.drewN d) := below_drewN (Below.refl _ _) d
  exact ⟨_, rfl, _, _, _, [], _, [], hW', trodAll_mk1 (shut_bool Try.underlying4 _), (trodAll_cons_mk (shut_string Try.underlying9 w0) trodAll_mk0), rfl, bel.frame _, fun h => by cases h⟩

theorem over : Rows.fnIsNameIsDocumentedAlphabetByteWiseRow.holds Try.pinned (OpenSpec.ofChange Rows.fnIsNameIsDocumentedAlphabetByteWiseSpec) :=
  OpenClaim.holds_of_wide 3 Try.f3 rfl rfl rfl rfl rfl rfl rfl ⟨rfl, rfl, rfl, rfl, rfl⟩ rfl rfl rfl rfl rfl (by kernel_rfl) Try.func3 (by kernel_rfl)
    (of_decide_eq_true (by kernel_rfl)) (by unfold Func.isWrapper; first | (rw [if_pos (by decide +kernel)]; kernel_rfl) | (rw [if_neg (by decide +kernel)]; exact ⟨rfl, rfl⟩))
    (fun os started H enc _ => lifted os started H enc)

/-- ████ THE STATEMENT ████ -/
theorem proved : Rows.FnIsNameIsDocumentedAlphabetByteWiseSaid :=
  over
#print axioms proved
end Go.Proofs.Qxb6630768a.fnIsNameIsDocumentedAlphabetByteWise

/-
  The proof of 'Rows.FnMemberFindsInsertedUnlessEarlierSaid'. The frame follows the kit's template for arguments that are integers, slices, a string and a bool, typed by hand; the walk is Qxb6630809aGrow.lean's.
-/
import Derived.Test.Qxb6630809aRows
import Derived.Test.Qxb6630809aGrow
import Derived.Test.Qxb6630809aOpen
import Derived.WalkKit
import Derived.ProofKit
import Derived.OpenShut
import Derived.ShutString
import Derived.ChangeOld
import Derived.Below
namespace Go.Proofs.Qxb6630809a.fnMemberFindsInsertedUnlessEarlier
open Go.ChangeShapes Go.WideShapes Go.ChangeAt Go.RowKit
open Go.ChangeMaps (open_string shut_string)
set_option linter.unusedVariables false

/-! ### THE WALK: the Go text returns true, and writes nothing that was there -/
set_option maxRecDepth 100000 in
set_option maxHeartbeats 3200000 in
theorem walk (x id k q : Int) (ad : ByteArray) (vo : Bool) (a1 a2 a3 : Option Addr) (n1 c1 n2 c2 n3 c3 : Nat) (I : Nat → Int) (S : Nat → ByteArray) (V : Nat → Bool) (w : World)
    (r1 : RowAt w w.heap.size a1 n1 (fun i => .int .u16 (I i))) (r2 : RowAt w w.heap.size a2 n2 (fun i => .string (S i))) (r3 : RowAt w w.heap.size a3 n3 (fun i => .bool (V i))) :
    Calls Try.prog 4 #[.int .u64 x, .slice a1 n1 c1, .slice a2 n2 c2, .slice a3 n3 c3, .int .i64 k, .int .u16 id, .string ad, .bool vo, .int .u16 q] w fun e w' => e = .returned (.bool true) ∧ Below w.heap.size w w' := by
  have HR : Hid (RowAt w w.heap.size a2 n2 (fun i => .string (S i))) := r2
  by_cases h0 : 1048576 < (ad.size : Int)
  · clear r1 r2 r3
    go_enter Try.func4, Try.ntmps4
    go_wp2_with fail
    refine (bytes9_calls x id k q ad vo a1 a2 a3 n1 c1 n2 c2 n3 c3 S w HR.out).mono ?_
    rintro e w ⟨⟨bb, rfl, hbb⟩, rfl⟩
    cases bb with
    | false =>
      go_wp2_with fail
      go_ret
      exact ⟨rfl, Below.refl _ _⟩
    | true =>
    clear hbb
    go_wp2_with fail
    go_ret
    exact ⟨rfl, Below.refl _ _⟩
  · have h0' : (ad.size : Int) ≤ 1048576 := by omega
    by_cases h1 : n2 = n1
    · by_cases h2 : n3 = n1
      · by_cases h3 : k < 0
        · have g1 : ((n2 : Int) != (n1 : Int)) = false := by simp; omega
          have g2 : ((n3 : Int) != (n1 : Int)) = false := by simp; omega
          clear r1 r2 r3 h1 h2
          go_enter Try.func4, Try.ntmps4
          go_wp2_with fail
          refine (bytes9_calls x id k q ad vo a1 a2 a3 n1 c1 n2 c2 n3 c3 S w HR.out).mono ?_
          rintro e w ⟨⟨bb, rfl, hbb⟩, rfl⟩
          cases bb with
          | false =>
            go_wp2_with fail
            go_ret
            exact ⟨rfl, Below.refl _ _⟩
          | true =>
          have HSH : Hid (Short S n2) := hbb rfl
          clear hbb
          go_wp2_with fail
          refine (fit_calls ad.size a1 a2 a3 n1 c1 n2 c2 n3 c3 S w HSH.out HR.out (by omega) (by omega)).mono ?_
          rintro e w ⟨⟨bb, rfl, hbb⟩, rfl⟩
          cases bb with
          | false =>
            go_wp2_with fail
            go_ret
            exact ⟨rfl, Below.refl _ _⟩
          | true =>
          clear hbb
          go_wp2_with fail
          go_ret
          exact ⟨rfl, Below.refl _ _⟩
        · by_cases h4 : (n1 : Int) < k
          · have g1 : ((n2 : Int) != (n1 : Int)) = false := by simp; omega
            have g2 : ((n3 : Int) != (n1 : Int)) = false := by simp; omega
            clear r1 r2 r3 h1 h2
            go_enter Try.func4, Try.ntmps4
            go_wp2_with fail
            refine (bytes9_calls x id k q ad vo a1 a2 a3 n1 c1 n2 c2 n3 c3 S w HR.out).mono ?_
            rintro e w ⟨⟨bb, rfl, hbb⟩, rfl⟩
            cases bb with
            | false =>
              go_wp2_with fail
              go_ret
              exact ⟨rfl, Below.refl _ _⟩
            | true =>
            have HSH : Hid (Short S n2) := hbb rfl
            clear hbb
            go_wp2_with fail
            refine (fit_calls ad.size a1 a2 a3 n1 c1 n2 c2 n3 c3 S w HSH.out HR.out (by omega) (by omega)).mono ?_
            rintro e w ⟨⟨bb, rfl, hbb⟩, rfl⟩
            cases bb with
            | false =>
              go_wp2_with fail
              go_ret
              exact ⟨rfl, Below.refl _ _⟩
            | true =>
            clear hbb
            go_wp2_with fail
            go_ret
            exact ⟨rfl, Below.refl _ _⟩
          · subst h1
            subst h2
            obtain ⟨j, rfl⟩ := Int.eq_ofNat_of_zero_le (show 0 ≤ k by omega)
            exact grow_mid x id q ad vo a1 a2 a3 _ c1 c2 c3 j I S V w (by omega) (by omega) r1 r2 r3
      · have g1 : ((n2 : Int) != (n1 : Int)) = false := by simp; omega
        have g2 : ((n3 : Int) != (n1 : Int)) = true := by simp; omega
        clear r1 r2 r3 h1 h2
        go_enter Try.func4, Try.ntmps4
        go_wp2_with fail
        refine (bytes9_calls x id k q ad vo a1 a2 a3 n1 c1 n2 c2 n3 c3 S w HR.out).mono ?_
        rintro e w ⟨⟨bb, rfl, hbb⟩, rfl⟩
        cases bb with
        | false =>
          go_wp2_with fail
          go_ret
          exact ⟨rfl, Below.refl _ _⟩
        | true =>
        have HSH : Hid (Short S n2) := hbb rfl
        clear hbb
        go_wp2_with fail
        refine (fit_calls ad.size a1 a2 a3 n1 c1 n2 c2 n3 c3 S w HSH.out HR.out (by omega) (by omega)).mono ?_
        rintro e w ⟨⟨bb, rfl, hbb⟩, rfl⟩
        cases bb with
        | false =>
          go_wp2_with fail
          go_ret
          exact ⟨rfl, Below.refl _ _⟩
        | true =>
        clear hbb
        go_wp2_with fail
        go_ret
        exact ⟨rfl, Below.refl _ _⟩
    · have g1 : ((n2 : Int) != (n1 : Int)) = true := by simp; omega
      clear r1 r2 r3 h1
      go_enter Try.func4, Try.ntmps4
      go_wp2_with fail
      refine (bytes9_calls x id k q ad vo a1 a2 a3 n1 c1 n2 c2 n3 c3 S w HR.out).mono ?_
      rintro e w ⟨⟨bb, rfl, hbb⟩, rfl⟩
      cases bb with
      | false =>
        go_wp2_with fail
        go_ret
        exact ⟨rfl, Below.refl _ _⟩
      | true =>
      have HSH : Hid (Short S n2) := hbb rfl
      clear hbb
      go_wp2_with fail
      refine (fit_calls ad.size a1 a2 a3 n1 c1 n2 c2 n3 c3 S w HSH.out HR.out (by omega) (by omega)).mono ?_
      rintro e w ⟨⟨bb, rfl, hbb⟩, rfl⟩
      cases bb with
      | false =>
        go_wp2_with fail
        go_ret
        exact ⟨rfl, Below.refl _ _⟩
      | true =>
      clear hbb
      go_wp2_with fail
      go_ret
      exact ⟨rfl, Below.refl _ _⟩

/-! ### THE ROW's STEP -/
set_option maxRecDepth 100000 in
theorem lifted (os : Os) (started : os.Started) (H : Type) (enc : TypeId × Value → H) :
    ReturnsInHanded {} Try.checked os 4 .any (Rows.fnMemberFindsInsertedUnlessEarlierSpec.pre6 enc Try.prog Try.f4 Rows.fnMemberFindsInsertedUnlessEarlierRow.domain false) (Rows.fnMemberFindsInsertedUnlessEarlierSpec.post enc Try.prog Try.f4 false true false false) := by
  refine returnsInHanded_of_change (C := Try.checked) own started (by kernel_rfl) Try.func4
    (ChangeSpec.witness6 (enc := enc) (C := Try.checked) false ⟨#[], #[.int .u64 0, .slice none 0 0, .slice none 0 0, .slice none 0 0, .int .i64 0, .int .u16 0, .string { data := #[] }, .bool false, .int .u16 0], []⟩ 8 (by kernel_rfl) (by kernel_rfl) (by kernel_rfl) (by kernel_rfl)) ?_
  intro W base args ds gs before hval0 hW hcnd _
  have hval : ∀ (j : Nat) t v, Try.f4.params[j]? = some t → args[j]? = some v → Value.okWide Try.prog W .any base t v := hval0
  have hW' := hW
  obtain ⟨p, q, hA0, hV, rfl, hfz, hnd⟩ := hW
  have hA : DataW.TrodAll enc Try.prog W 0 (fun _ => true) true Try.f4.params.toList args.toList ds p := hA0
  rw [Try.params4] at hA hval
  obtain ⟨v0, vs0, d0, ds0, p0, q0, hargs, rfl, rfl, h0, r0⟩ := trodAll_cons hA
  obtain ⟨v1, vs1, d1, ds1, p1, q1, rfl, rfl, rfl, h1, r1⟩ := trodAll_cons r0
  obtain ⟨v2, vs2, d2, ds2, p2, q2, rfl, rfl, rfl, h2, r2⟩ := trodAll_cons r1
  obtain ⟨v3, vs3, d3, ds3, p3, q3, rfl, rfl, rfl, h3, r3⟩ := trodAll_cons r2
  obtain ⟨v4, vs4, d4, ds4, p4, q4, rfl, rfl, rfl, h4, r4⟩ := trodAll_cons r3
  obtain ⟨v5, vs5, d5, ds5, p5, q5, rfl, rfl, rfl, h5, r5⟩ := trodAll_cons r4
  obtain ⟨v6, vs6, d6, ds6, p6, q6, rfl, rfl, rfl, h6, r6⟩ := trodAll_cons r5
  obtain ⟨v7, vs7, d7, ds7, p7, q7, rfl, rfl, rfl, h7, r7⟩ := trodAll_cons r6
  obtain ⟨v8, vs8, d8, ds8, p8, q8, rfl, rfl, rfl, h8, r8⟩ := trodAll_cons r7
  obtain ⟨rfl, rfl, rfl⟩ := trodAll_nil r8
  obtain rfl : args = #[v0, v1, v2, v3, v4, v5, v6, v7, v8] := by cases args; simp_all
  obtain ⟨rfl, rfl⟩ := trodVars_none hV
  obtain ⟨a0, rfl, rfl, rfl, w0⟩ := open_int Try.underlying22 (hval 0 22 v0 rfl rfl) h0
  obtain ⟨a1, n1, c1, rfl⟩ := okWide_slice Try.underlying23 (hval 1 23 v1 rfl rfl)
  have k1 := h1
  have lt1 : ∀ x ∈ p1, x.block < W.heap.size := by obtain ⟨m, hm⟩ := k1; exact DataW.trod_lt m _ _ _ hm
  obtain ⟨I, e1⟩ : ∃ I : Nat → Int, RowAt W W.heap.size a1 n1 (fun i => .int .u16 (I i)) := by obtain ⟨fuel, hf⟩ := h1; exact row_ints hf
  obtain ⟨a2, n2, c2, rfl⟩ := okWide_slice Try.underlying24 (hval 2 24 v2 rfl rfl)
  have k2 := h2
  have lt2 : ∀ x ∈ p2, x.block < W.heap.size := by obtain ⟨m, hm⟩ := k2; exact DataW.trod_lt m _ _ _ hm
  obtain ⟨S, e2⟩ : ∃ S : Nat → ByteArray, RowAt W W.heap.size a2 n2 (fun i => .string (S i)) := by obtain ⟨fuel, hf⟩ := h2; exact row_strs hf
  obtain ⟨a3, n3, c3, rfl⟩ := okWide_slice Try.underlying25 (hval 3 25 v3 rfl rfl)
  have k3 := h3
  have lt3 : ∀ x ∈ p3, x.block < W.heap.size := by obtain ⟨m, hm⟩ := k3; exact DataW.trod_lt m _ _ _ hm
  obtain ⟨V, e3⟩ : ∃ V : Nat → Bool, RowAt W W.heap.size a3 n3 (fun i => .bool (V i)) := by obtain ⟨fuel, hf⟩ := h3; exact row_bools hf
  obtain ⟨a4, rfl, rfl, rfl, w4⟩ := open_int Try.underlying3 (hval 4 3 v4 rfl rfl) h4
  obtain ⟨a5, rfl, rfl, rfl, w5⟩ := open_int Try.underlying26 (hval 5 26 v5 rfl rfl) h5
  obtain ⟨s6, rfl, rfl, rfl, w6⟩ := open_string Try.underlying9 (hval 6 9 v6 rfl rfl) h6
  obtain ⟨b7, rfl, rfl, rfl⟩ := open_bool Try.underlying4 (hval 7 4 v7 rfl rfl) h7
  obtain ⟨a8, rfl, rfl, rfl, w8⟩ := open_int Try.underlying26 (hval 8 26 v8 rfl rfl) h8
  clear hA0 hval0
  refine (walk a0 a5 a4 a8 s6 b7 a1 a2 a3 n1 c1 n2 c2 n3 c3 I S V W e1 e2 e3).mono fun e W' ⟨he, bel⟩ => ?_
  subst he
  exact ⟨_, rfl, _, _, _, [], _, [], hW', trodAll_mk1 (shut_bool Try.underlying4 _), (trodAll_cons_mk (shut_int Try.underlying22 w0) (trodAll_cons_mk (Below.trod laidOut (by kernel_rfl) (of_decide_eq_true (by kernel_rfl)) k1 bel lt1) (trodAll_cons_mk (Below.trod laidOut (by kernel_rfl) (of_decide_eq_true (by kernel_rfl)) k2 bel lt2) (trodAll_cons_mk (Below.trod laidOut (by kernel_rfl) (of_decide_eq_true (by kernel_rfl)) k3 bel lt3) (trodAll_cons_mk (shut_int Try.underlying3 w4) (trodAll_cons_mk (shut_int Try.underlying26 w5) (trodAll_cons_mk (shut_string Try.underlying9 w6) (trodAll_cons_mk (shut_bool Try.underlying4 _) (trodAll_cons_mk (shut_int Try.underlying26 w8) trodAll_mk0))))))))), rfl, bel.frame _, fun h => by cases h⟩

theorem over : Rows.fnMemberFindsInsertedUnlessEarlierRow.holds Try.pinned (OpenSpec.ofChange Rows.fnMemberFindsInsertedUnlessEarlierSpec) :=
  OpenClaim.holds_of_wide 4 Try.f4 rfl rfl rfl rfl rfl rfl rfl ⟨rfl, rfl, rfl, rfl, rfl⟩ rfl rfl rfl rfl rfl (by kernel_rfl) Try.func4 (by kernel_rfl)
    (of_decide_eq_true (by kernel_rfl)) (by unfold Func.isWrapper; first | (rw [if_pos (by decide +kernel)]; kernel_rfl) | (rw [if_neg (by decide +kernel)]; exact ⟨rfl, rfl⟩))
    (fun os started H enc _ => lifted os started H enc)

theorem proved : Rows.FnMemberFindsInsertedUnlessEarlierSaid := over
#print axioms proved
end Go.Proofs.Qxb6630809a.fnMemberFindsInsertedUnlessEarlier

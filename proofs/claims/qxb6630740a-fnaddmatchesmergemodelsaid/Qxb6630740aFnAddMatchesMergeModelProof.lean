/-
  The proof of 'Rows.FnAddMatchesMergeModelSaid'. The frame is the kit's shell for this function; the walk is Qxb6630740aMatch.lean's.
-/
import Derived.Test.Qxb6630740aRows
import Derived.Test.Qxb6630740aMatch
import Derived.WalkKit
import Derived.ProofKit
import Derived.OpenShut
import Derived.ShutString
import Derived.ChangeOld
import Derived.Below
namespace Go.Proofs.Qxb6630740a.fnAddMatchesMergeModel
open Go.ChangeShapes Go.WideShapes Go.ChangeAt Go.RowKit
open Go.ChangeMaps (open_string shut_string)
set_option linter.unusedVariables false

theorem own : ownKnob Try.prog.godebug = none := by kernel_rfl
theorem laidOut : laidOutB Try.prog = true := by kernel_rfl

/-- WHAT THE WALK IS TOLD OF A SLICE OF INTEGERS THAT CAME IN: it is nil; or it leads to a row of 'cap' cells, the numbers 'zs' (the first 'len' are its elements, the rest its spare room), each fitting its kind. -/
def IsRow (k : IntKind) (w : World) (a : Option Addr) (len cap : Nat) (zs : List Int) : Prop :=
  (a = none ∧ len = 0 ∧ cap = 0 ∧ zs = []) ∨
  ∃ x, a = some x ∧ len ≤ cap ∧ cap ≤ maxLen ∧ zs.length = cap ∧ (∀ i, i < zs.length → w.cell? (x.add i) = some (.int k (zs.getD i 0))) ∧ ∀ n ∈ zs, (Lit.int k n).wf = true

/-- The elements alone, as the walks below read them. -/
theorem IsRow.elems {w : World} {a : Option Addr} {len cap : Nat} {zs : List Int} (h : IsRow .u64 w a len cap zs) :
    len ≤ maxLen ∧ (zs.take len).length = len ∧ RowIn w w.heap.size a (zs.take len) ∧ ∀ x ∈ zs.take len, 0 ≤ x ∧ x ≤ 18446744073709551615 := by
  rcases h with ⟨rfl, rfl, rfl, rfl⟩ | ⟨x, rfl, h1, h2, h3, h4, h5⟩
  · exact ⟨by unfold maxLen; omega, rfl, fun h => absurd rfl h, fun x hx => by simp at hx⟩
  · refine ⟨by omega, by simp; omega, fun hne => ?_, fun y hy => bounds_u64 (h5 y (List.mem_of_mem_take hy))⟩
    have hpos : 0 < len := by
      rcases Nat.eq_zero_or_pos len with e | e
      · subst e; simp at hne
      · exact e
    obtain ⟨b, off, rfl, hc⟩ := ints_at h4 (by omega)
    refine ⟨b, off, rfl, World.block_lt_of_cell? w _ (hc 0 (by omega)), fun i hi => ?_⟩
    have hi' : i < len := by simp at hi; omega
    rw [hc i (by omega)]
    simp [List.getD, hi']

/-! ### THE WALK: the Go text returns true, and writes nothing that was there -/
set_option maxRecDepth 100000 in
set_option maxHeartbeats 1600000 in
theorem walk (a0 : ByteArray) (a1 : Option Addr) (len1 cap1 : Nat) (z1 : List Int) (a2 : Option Addr) (len2 cap2 : Nat) (z2 : List Int) (a3 : Int) (w : World) (w0 : a0.size ≤ maxLen) (w1 : IsRow .u64 w a1 len1 cap1 z1) (w2 : IsRow .u64 w a2 len2 cap2 z2) (w3 : (Lit.int .u64 a3).wf = true) :
    Calls Try.prog 3 #[.string a0, .slice a1 len1 cap1, .slice a2 len2 cap2, .int .u64 a3] w fun e w' => e = .returned (.bool true) ∧ Below w.heap.size w w' := by
  obtain ⟨hm1, hl1, hr1, hx1⟩ := w1.elems
  obtain ⟨hm2, hl2, hr2, hx2⟩ := w2.elems
  have hb3 := bounds_u64 w3
  clear w1 w2 w3
  by_cases h1 : a0.size + len1 + len2 ≤ 1048576
  · have g0 : (a0.size : Int) ≤ 1048576 := by omega
    by_cases h2 : 131072 < len1
    · have g1 : (131072 : Int) < len1 := by omega
      clear hl1 hr1 hx1 hl2 hr2 hx2
      go_enter Try.func3, Try.ntmps3
      go_wp2_with fail
      refine (bytesM_yes a0 a1 a2 len1 cap1 len2 cap2 a3 w h1).mono ?_
      rintro e w ⟨rfl, rfl⟩
      go_wp2_with fail
      go_ret
      exact ⟨rfl, Below.refl _ _⟩
    · have g1 : (len1 : Int) ≤ 131072 := by omega
      by_cases h3 : 131072 < len2
      · have g2 : (131072 : Int) < len2 := by omega
        clear hl1 hr1 hx1 hl2 hr2 hx2
        go_enter Try.func3, Try.ntmps3
        go_wp2_with fail
        refine (bytesM_yes a0 a1 a2 len1 cap1 len2 cap2 a3 w h1).mono ?_
        rintro e w ⟨rfl, rfl⟩
        go_wp2_with fail
        go_ret
        exact ⟨rfl, Below.refl _ _⟩
      · have g2 : (len2 : Int) ≤ 131072 := by omega
        by_cases h4 : a0.size + 8 * len1 + 8 * len2 ≤ 1048576
        · have g3 : (a0.size : Int) + 8 * (len1 : Int) + 8 * (len2 : Int) ≤ 1048576 := by omega
          by_cases h5 : len1 = len2
          · by_cases h6 : a3 = 18446744073709551615
            · have t6 : (a3 == 18446744073709551615) = true := by rw [beq_iff_eq]; exact h6
              have g4 : ((len1 : Int) != (len2 : Int)) = false := by simp; omega
              clear h6 h5
              clear hl1 hr1 hx1 hl2 hr2 hx2
              go_enter Try.func3, Try.ntmps3
              go_wp2_with fail
              refine (bytesM_yes a0 a1 a2 len1 cap1 len2 cap2 a3 w h1).mono ?_
              rintro e w ⟨rfl, rfl⟩
              go_wp2_with fail
              go_ret
              exact ⟨rfl, Below.refl _ _⟩
            · subst h5
              exact match_mid a0 a1 a2 len1 cap1 cap2 (z1.take len1) (z2.take len1) a3 w hl1 hl2 hr1 hr2 h4 hb3.1 (by omega) hx1 hx2
          · have g4 : ((len1 : Int) != (len2 : Int)) = true := by simp; omega
            clear hl1 hr1 hx1 hl2 hr2 hx2
            go_enter Try.func3, Try.ntmps3
            go_wp2_with fail
            refine (bytesM_yes a0 a1 a2 len1 cap1 len2 cap2 a3 w h1).mono ?_
            rintro e w ⟨rfl, rfl⟩
            go_wp2_with fail
            go_ret
            exact ⟨rfl, Below.refl _ _⟩
        · have g3 : (1048576 : Int) < (a0.size : Int) + 8 * (len1 : Int) + 8 * (len2 : Int) := by omega
          clear hl1 hr1 hx1 hl2 hr2 hx2
          go_enter Try.func3, Try.ntmps3
          go_wp2_with fail
          refine (bytesM_yes a0 a1 a2 len1 cap1 len2 cap2 a3 w h1).mono ?_
          rintro e w ⟨rfl, rfl⟩
          go_wp2_with fail
          go_ret
          exact ⟨rfl, Below.refl _ _⟩
  · clear hl1 hr1 hx1 hl2 hr2 hx2
    go_enter Try.func3, Try.ntmps3
    go_wp2_with fail
    refine (bytesM_no a0 a1 a2 len1 cap1 len2 cap2 a3 w h1 w0 hm1 hm2).mono ?_
    rintro e w ⟨rfl, rfl⟩
    go_wp2_with fail
    go_ret
    exact ⟨rfl, Below.refl _ _⟩

/-! ### THE ROW's STEP: WRITTEN OUT: LEAVE IT -/
set_option maxRecDepth 100000 in
theorem lifted (os : Os) (started : os.Started) (H : Type) (enc : TypeId × Value → H) :
    ReturnsInHanded {} Try.checked os 3 .any (Rows.fnAddMatchesMergeModelSpec.pre6 enc Try.prog Try.f3 Rows.fnAddMatchesMergeModelRow.domain false) (Rows.fnAddMatchesMergeModelSpec.post enc Try.prog Try.f3 false true false false) := by
  refine returnsInHanded_of_change (C := Try.checked) own started (by kernel_rfl) Try.func3
    (ChangeSpec.witness6 (enc := enc) (C := Try.checked) false ⟨#[], #[.string ByteArray.empty, .slice none 0 0, .slice none 0 0, .int .u64 0], []⟩ 8 (by kernel_rfl) (by kernel_rfl) (by kernel_rfl) (by kernel_rfl)) ?_
  intro W base args ds gs before hval0 hW hcnd _
  have hval : ∀ (j : Nat) t v, Try.f3.params[j]? = some t → args[j]? = some v → Value.okWide Try.prog W .any base t v := hval0
  have hW' := hW
  obtain ⟨p, q, hA0, hV, rfl, hfz, hnd⟩ := hW
  have hA : DataW.TrodAll enc Try.prog W 0 (fun _ => true) true Try.f3.params.toList args.toList ds p := hA0
  rw [Try.params3] at hA hval
  obtain ⟨v0, vs0, d0, ds0, p0, q0, hargs, rfl, rfl, h0, r0⟩ := trodAll_cons hA
  obtain ⟨v1, vs1, d1, ds1, p1, q1, rfl, rfl, rfl, h1, r1⟩ := trodAll_cons r0
  obtain ⟨v2, vs2, d2, ds2, p2, q2, rfl, rfl, rfl, h2, r2⟩ := trodAll_cons r1
  obtain ⟨v3, vs3, d3, ds3, p3, q3, rfl, rfl, rfl, h3, r3⟩ := trodAll_cons r2
  obtain ⟨rfl, rfl, rfl⟩ := trodAll_nil r3
  obtain rfl : args = #[v0, v1, v2, v3] := by cases args; simp_all
  obtain ⟨rfl, rfl⟩ := trodVars_none hV
  obtain ⟨a0, rfl, rfl, rfl, w0⟩ := open_string Try.underlying9 (hval 0 9 v0 rfl rfl) h0
  obtain ⟨a1, len1, cap1, rfl⟩ := okWide_slice Try.underlying22 (hval 1 22 v1 rfl rfl)
  have k1 := h1
  have lt1 : ∀ x ∈ p1, x.block < W.heap.size := by obtain ⟨m, hm⟩ := k1; exact DataW.trod_lt m _ _ _ hm
  obtain ⟨z1, w1⟩ : ∃ zs, IsRow .u64 W a1 len1 cap1 zs := by
    obtain ⟨fuel, hf⟩ := h1
    rcases open_ints Try.underlying22 Try.underlying23 (by kernel_rfl) hf with ⟨hcs, _⟩ | ⟨x, l, c, zs, hcs, _, hl, hm, hz, _, hcell, hwz⟩
    · simp [Value.cells] at hcs
      obtain ⟨rfl, rfl, rfl⟩ := hcs
      exact ⟨[], .inl ⟨rfl, rfl, rfl, rfl⟩⟩
    · simp [Value.cells] at hcs
      obtain ⟨rfl, rfl, rfl⟩ := hcs
      exact ⟨zs, .inr ⟨_, rfl, hl, hm, by simpa using hz, hcell, hwz⟩⟩
  obtain ⟨a2, len2, cap2, rfl⟩ := okWide_slice Try.underlying22 (hval 2 22 v2 rfl rfl)
  have k2 := h2
  have lt2 : ∀ x ∈ p2, x.block < W.heap.size := by obtain ⟨m, hm⟩ := k2; exact DataW.trod_lt m _ _ _ hm
  obtain ⟨z2, w2⟩ : ∃ zs, IsRow .u64 W a2 len2 cap2 zs := by
    obtain ⟨fuel, hf⟩ := h2
    rcases open_ints Try.underlying22 Try.underlying23 (by kernel_rfl) hf with ⟨hcs, _⟩ | ⟨x, l, c, zs, hcs, _, hl, hm, hz, _, hcell, hwz⟩
    · simp [Value.cells] at hcs
      obtain ⟨rfl, rfl, rfl⟩ := hcs
      exact ⟨[], .inl ⟨rfl, rfl, rfl, rfl⟩⟩
    · simp [Value.cells] at hcs
      obtain ⟨rfl, rfl, rfl⟩ := hcs
      exact ⟨zs, .inr ⟨_, rfl, hl, hm, by simpa using hz, hcell, hwz⟩⟩
  obtain ⟨a3, rfl, rfl, rfl, w3⟩ := open_int Try.underlying23 (hval 3 23 v3 rfl rfl) h3
  clear hA0 hval0
  refine (walk a0 a1 len1 cap1 z1 a2 len2 cap2 z2 a3 W w0 w1 w2 w3).mono fun e W' ⟨he, bel⟩ => ?_
  subst he
  exact ⟨_, rfl, _, _, _, [], _, [], hW', trodAll_mk1 (shut_bool Try.underlying4 _), (trodAll_cons_mk (shut_string Try.underlying9 w0) (trodAll_cons_mk (Below.trod laidOut (by kernel_rfl) (of_decide_eq_true (by kernel_rfl)) k1 bel lt1) (trodAll_cons_mk (Below.trod laidOut (by kernel_rfl) (of_decide_eq_true (by kernel_rfl)) k2 bel lt2) (trodAll_cons_mk (shut_int Try.underlying23 w3) trodAll_mk0)))), rfl, bel.frame _, fun h => by cases h⟩

theorem over : Rows.fnAddMatchesMergeModelRow.holds Try.pinned (OpenSpec.ofChange Rows.fnAddMatchesMergeModelSpec) :=
  OpenClaim.holds_of_wide 3 Try.f3 rfl rfl rfl rfl rfl rfl rfl ⟨rfl, rfl, rfl, rfl, rfl⟩ rfl rfl rfl rfl rfl (by kernel_rfl) Try.func3 (by kernel_rfl)
    (of_decide_eq_true (by kernel_rfl)) (by unfold Func.isWrapper; first | (rw [if_pos (by decide +kernel)]; kernel_rfl) | (rw [if_neg (by decide +kernel)]; exact ⟨rfl, rfl⟩))
    (fun os started H enc _ => lifted os started H enc)

/-- ████ THE STATEMENT ████ -/
theorem proved : Rows.FnAddMatchesMergeModelSaid := over
#print axioms proved
end Go.Proofs.Qxb6630740a.fnAddMatchesMergeModel

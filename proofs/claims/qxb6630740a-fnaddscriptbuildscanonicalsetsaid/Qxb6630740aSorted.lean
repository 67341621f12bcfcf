import Derived.Test.Qxb6630740aPlain
/- The plain law of an insertion sort, and of counting the values of a sorted list. No Go in sight. -/
namespace Go.Proofs.Qxb6630740a

theorem getD_at {l : List Int} {i : Nat} (h : i < l.length) : l.getD i 0 = l[i] := by simp [List.getD, h]

theorem mem_take_sorted {L : List Int} (hs : L.Pairwise (· ≤ ·)) {i : Nat} (h0 : 0 < i) (hi : i < L.length) : L.getD i 0 ∈ L.take i ↔ L.getD i 0 = L.getD (i - 1) 0 := by
  have hp := List.pairwise_iff_getElem.1 hs
  rw [getD_at hi, getD_at (show i - 1 < L.length by omega)]
  constructor
  · intro h
    obtain ⟨j, hj, e⟩ := List.mem_iff_getElem.1 h
    have hj' : j < i := by simp at hj; omega
    rw [List.getElem_take] at e
    have h1 : L[j]'(by omega) ≤ L[i - 1]'(by omega) := by
      by_cases e : j = i - 1
      · subst e; exact Int.le_refl _
      · exact hp j (i - 1) (by omega) (by omega) (by omega)
    have h2 : L[i - 1]'(by omega) ≤ L[i] := hp (i - 1) i (by omega) (by omega) (by omega)
    omega
  · intro e
    rw [e]
    exact List.mem_iff_getElem.2 ⟨i - 1, by simp; omega, by rw [List.getElem_take]⟩

/-- In the midst of an insertion: P is sorted, v is to go in, place j is free; what stands behind it is greater. -/
structure Hole (P R : List Int) (v : Int) (j : Nat) (L : List Int) : Prop where
  le : j ≤ P.length
  form : ∃ y, L = P.take j ++ y :: (P.drop j ++ R)
  high : ∀ x ∈ P.drop j, v < x

theorem Hole.start (P R : List Int) (v : Int) : Hole P R v P.length (P ++ v :: R) :=
  ⟨Nat.le_refl _, ⟨v, by simp⟩, by simp⟩

theorem Hole.read {P R : List Int} {v : Int} {j : Nat} {L : List Int} (h : Hole P R v (j + 1) L) : L.getD j 0 = P.getD j 0 := by
  obtain ⟨y, rfl⟩ := h.form
  have := h.le
  simp only [List.getD]
  rw [List.getElem?_append_left (by simp; omega), List.getElem?_take_of_lt (by omega)]

theorem Hole.length {P R : List Int} {v : Int} {j : Nat} {L : List Int} (h : Hole P R v j L) : L.length = P.length + 1 + R.length := by
  obtain ⟨y, rfl⟩ := h.form
  have := h.le
  simp; omega

theorem Hole.step {P R : List Int} {v : Int} {j : Nat} {L : List Int} (h : Hole P R v (j + 1) L) (hv : v < P.getD j 0) : Hole P R v j (L.set (j + 1) (P.getD j 0)) := by
  obtain ⟨y, rfl⟩ := h.form
  have hl := h.le
  have hj : j < P.length := by omega
  rw [getD_at hj] at hv ⊢
  refine ⟨by omega, ⟨P[j], ?_⟩, fun x hx => ?_⟩
  · have hA : (P.take (j + 1)).length = j + 1 := by simp; omega
    rw [List.set_append_right _ _ (by omega), hA, Nat.sub_self, List.set_cons_zero, List.take_succ_eq_append_getElem hj, List.append_assoc, List.drop_eq_getElem_cons hj]
    rfl
  · rw [List.drop_eq_getElem_cons hj, List.mem_cons] at hx
    rcases hx with rfl | hx
    · exact hv
    · exact h.high x hx

theorem Hole.fill {P R : List Int} {v : Int} {j : Nat} {L : List Int} (h : Hole P R v j L) : L.set j v = (P.take j ++ v :: P.drop j) ++ R := by
  obtain ⟨y, rfl⟩ := h.form
  have hl := h.le
  have hA : (P.take j).length = j := by simp; omega
  rw [List.set_append_right _ _ (by omega), hA, Nat.sub_self, List.set_cons_zero]
  simp

theorem ins_perm (P R : List Int) (v : Int) (j : Nat) : ((P.take j ++ v :: P.drop j) ++ R).Perm (P ++ v :: R) := by
  have h1 : (P.take j ++ v :: P.drop j).Perm (v :: P) := by
    have := List.perm_middle (a := v) (l₁ := P.take j) (l₂ := P.drop j)
    rwa [List.take_append_drop] at this
  have h2 : (P ++ v :: R).Perm (v :: (P ++ R)) := List.perm_middle
  exact (h1.append_right R).trans h2.symm

theorem ins_sorted {P : List Int} {v : Int} {j : Nat} (hs : P.Pairwise (· ≤ ·)) (hj : j ≤ P.length) (h1 : ∀ x ∈ P.drop j, v < x) (h2 : 0 < j → P.getD (j - 1) 0 ≤ v) : (P.take j ++ v :: P.drop j).Pairwise (· ≤ ·) := by
  have hp := List.pairwise_iff_getElem.1 hs
  have hlow : ∀ x ∈ P.take j, x ≤ v := by
    intro x hx
    obtain ⟨i, hi, rfl⟩ := List.mem_iff_getElem.1 hx
    have hi' : i < j := by simp at hi; omega
    rw [List.getElem_take]
    have h3 := h2 (by omega)
    rw [getD_at (show j - 1 < P.length by omega)] at h3
    by_cases e : i = j - 1
    · subst e; exact h3
    · have := hp i (j - 1) (by omega) (by omega) (by omega)
      omega
  rw [← List.take_append_drop j P] at hs
  obtain ⟨s1, s2, s3⟩ := List.pairwise_append.1 hs
  refine List.pairwise_append.2 ⟨s1, List.pairwise_cons.2 ⟨fun x hx => by have := h1 x hx; omega, s2⟩, fun a ha b hb => ?_⟩
  rcases List.mem_cons.1 hb with rfl | hb
  · exact hlow a ha
  · exact s3 a ha b hb

/-- The insertion is done. -/
theorem Hole.done {L L' ns : List Int} {v : Int} {m j : Nat} (h : Hole (L.take m) (L.drop (m + 1)) v j L') (hv : L.getD m 0 = v) (hm : m < L.length) (hperm : L.Perm ns) (hs : (L.take m).Pairwise (· ≤ ·))
    (h2 : 0 < j → (L.take m).getD (j - 1) 0 ≤ v) : (L'.set j v).Perm ns ∧ ((L'.set j v).take (m + 1)).Pairwise (· ≤ ·) := by
  have hl : (L.take m).length = m := by simp; omega
  have hj := h.le
  rw [h.fill]
  refine ⟨(ins_perm _ _ _ _).trans ?_, ?_⟩
  · have e : L.take m ++ v :: L.drop (m + 1) = L := by
      rw [← hv, getD_at hm, ← List.drop_eq_getElem_cons hm, List.take_append_drop]
    rw [e]; exact hperm
  · have e : ((L.take m).take j ++ v :: (L.take m).drop j).length = m + 1 := by
      simp only [List.length_append, List.length_take, List.length_cons, List.length_drop]
      omega
    rw [List.take_left' e]
    exact ins_sorted hs hj h.high h2

end Go.Proofs.Qxb6630740a

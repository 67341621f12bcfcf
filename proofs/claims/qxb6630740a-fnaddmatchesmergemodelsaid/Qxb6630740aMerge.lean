import Derived.Test.Qxb6630740aPlain
/- The plain law of the merge model: insert by the first number, then one sweep: it is what Add makes. No Go in sight. -/
namespace Go.Proofs.Qxb6630740a

/-- [n, n] put in by its first number. -/
def ins (n : Int) : List (Int × Int) → List (Int × Int)
  | [] => [(n, n)]
  | (f, l) :: t => if f ≤ n then (f, l) :: ins n t else (n, n) :: (f, l) :: t

/-- One step of the sweep. -/
def mstep (acc : List (Int × Int)) (x : Int × Int) : List (Int × Int) :=
  match acc.getLast? with
  | none => [x]
  | some z => if x.1 ≤ z.2 + 1 then (if z.2 < x.2 then acc.dropLast ++ [(z.1, x.2)] else acc) else acc ++ [x]

def sweep (l : List (Int × Int)) : List (Int × Int) := l.foldl mstep []

theorem mstep_far {acc : List (Int × Int)} {x : Int × Int} (h : ∀ z, acc.getLast? = some z → z.2 + 1 < x.1) : mstep acc x = acc ++ [x] := by
  unfold mstep
  split
  · rename_i e
    rw [List.getLast?_eq_none_iff.1 e]
    rfl
  · rename_i z e
    rw [if_neg (by have := h z e; omega)]

theorem mstep_at (a : List (Int × Int)) (z x : Int × Int) : mstep (a ++ [z]) x = if x.1 ≤ z.2 + 1 then (if z.2 < x.2 then a ++ [(z.1, x.2)] else a ++ [z]) else a ++ [z] ++ [x] := by
  unfold mstep
  rw [List.getLast?_concat]
  simp

theorem fold_far : ∀ (t : List (Int × Int)) (lo : Int) (acc : List (Int × Int)), CanonFrom lo t → (∀ z, acc.getLast? = some z → z.2 + 1 ≤ lo) → t.foldl mstep acc = acc ++ t
  | [], _, acc, _, _ => by simp
  | (f, l) :: t, lo, acc, ⟨h1, h2, h3, h4⟩, h => by
    rw [List.foldl_cons, mstep_far (fun z e => by have := h z e; show z.2 + 1 < f; omega), fold_far t (l + 1) (acc ++ [(f, l)]) h4 (fun z e => by rw [List.getLast?_concat] at e; obtain rfl := Option.some.inj e; exact Int.le_refl _)]
    simp

theorem fold_ins (n : Int) : ∀ (ivs : List (Int × Int)) (lo : Int) (acc : List (Int × Int)), CanonFrom lo ivs → lo < n → (∀ z, acc.getLast? = some z → z.2 + 1 ≤ lo) → (ins n ivs).foldl mstep acc = acc ++ addIv n ivs
  | [], lo, acc, _, hlo, h => by
    show mstep acc (n, n) = _
    rw [mstep_far (fun z e => by have := h z e; show z.2 + 1 < n; omega)]
    rfl
  | (f, l) :: t, lo, acc, ⟨h1, h2, h3, h4⟩, hlo, h => by
    have hfar : mstep acc (f, l) = acc ++ [(f, l)] := mstep_far (fun z e => by have := h z e; show z.2 + 1 < f; omega)
    have hlast : ∀ z, (acc ++ [(f, l)]).getLast? = some z → z.2 + 1 ≤ l + 1 := fun z e => by rw [List.getLast?_concat] at e; obtain rfl := Option.some.inj e; exact Int.le_refl _
    unfold addIv
    by_cases c1 : l + 1 < n
    · rw [if_pos c1]
      show List.foldl mstep acc (if f ≤ n then (f, l) :: ins n t else _) = _
      rw [if_pos (by omega), List.foldl_cons, hfar, fold_ins n t (l + 1) _ h4 c1 hlast]
      simp
    rw [if_neg c1]
    have hn : mstep acc (n, n) = acc ++ [(n, n)] := mstep_far (fun z e => by have := h z e; show z.2 + 1 < n; omega)
    by_cases c2 : n + 1 < f
    · rw [if_pos c2]
      show List.foldl mstep acc (if f ≤ n then (f, l) :: ins n t else (n, n) :: (f, l) :: t) = _
      rw [if_neg (by omega), List.foldl_cons, hn, fold_far ((f, l) :: t) (n + 1) _ ⟨c2, h2, h3, h4⟩ (fun z e => by rw [List.getLast?_concat] at e; obtain rfl := Option.some.inj e; exact Int.le_refl _)]
      simp
    rw [if_neg c2]
    by_cases c3 : n + 1 = f
    · rw [if_pos c3]
      show List.foldl mstep acc (if f ≤ n then (f, l) :: ins n t else (n, n) :: (f, l) :: t) = _
      rw [if_neg (by omega), List.foldl_cons, hn, List.foldl_cons, mstep_at, if_pos (by show f ≤ n + 1; omega), if_pos (by show n < l; omega), fold_far t (l + 1) _ h4 (fun z e => by rw [List.getLast?_concat] at e; obtain rfl := Option.some.inj e; exact Int.le_refl _)]
      simp
    rw [if_neg c3]
    have hfn : f ≤ n := by omega
    by_cases c4 : n = l + 1
    · rw [if_pos c4]
      show List.foldl mstep acc (if f ≤ n then (f, l) :: ins n t else _) = _
      rw [if_pos hfn, List.foldl_cons, hfar]
      match t, h4 with
      | [], _ =>
        show mstep (acc ++ [(f, l)]) (n, n) = _
        rw [mstep_at, if_pos (by show n ≤ l + 1; omega), if_pos (by show l < n; omega)]
      | (f2, l2) :: t2, ⟨k1, k2, k3, k4⟩ =>
        show List.foldl mstep (acc ++ [(f, l)]) (if f2 ≤ n then _ else (n, n) :: (f2, l2) :: t2) = acc ++ (if f2 = n + 1 then (f, l2) :: t2 else (f, n) :: (f2, l2) :: t2)
        rw [if_neg (by omega), List.foldl_cons, mstep_at, if_pos (by show n ≤ l + 1; omega), if_pos (by show l < n; omega)]
        by_cases c5 : f2 = n + 1
        · rw [if_pos c5, List.foldl_cons, mstep_at, if_pos (by show f2 ≤ n + 1; omega), if_pos (by show n < l2; omega), fold_far t2 (l2 + 1) _ k4 (fun z e => by rw [List.getLast?_concat] at e; obtain rfl := Option.some.inj e; exact Int.le_refl _)]
          simp
        · rw [if_neg c5, fold_far ((f2, l2) :: t2) (n + 1) _ ⟨by omega, k2, k3, k4⟩ (fun z e => by rw [List.getLast?_concat] at e; obtain rfl := Option.some.inj e; exact Int.le_refl _)]
          simp
    · rw [if_neg c4]
      show List.foldl mstep acc (if f ≤ n then (f, l) :: ins n t else _) = _
      rw [if_pos hfn, List.foldl_cons, hfar]
      have hin : mstep (acc ++ [(f, l)]) (n, n) = acc ++ [(f, l)] := by
        rw [mstep_at, if_pos (by show n ≤ l + 1; omega), if_neg (by show ¬ l < n; omega)]
      match t, h4 with
      | [], _ => exact hin
      | (f2, l2) :: t2, h4 =>
        have k1 := h4.1
        show List.foldl mstep (acc ++ [(f, l)]) (if f2 ≤ n then _ else (n, n) :: (f2, l2) :: t2) = _
        rw [if_neg (by omega), List.foldl_cons, hin, fold_far ((f2, l2) :: t2) (l + 1) _ h4 hlast]
        simp

/-- THE LAW. -/
theorem sweep_ins {n lo : Int} {ivs : List (Int × Int)} (h : CanonFrom lo ivs) (hlo : lo < n) : sweep (ins n ivs) = addIv n ivs := by
  have := fold_ins n ivs lo [] h hlo (fun z e => by cases e)
  simpa [sweep] using this

theorem ins_at (n : Int) : ∀ (j : Nat) (ivs : List (Int × Int)), j ≤ ivs.length → (∀ i, i < j → (ivs.getD i (0, 0)).1 ≤ n) → (j < ivs.length → n < (ivs.getD j (0, 0)).1) → ins n ivs = ivs.take j ++ (n, n) :: ivs.drop j
  | 0, [], _, _, _ => rfl
  | 0, (f, l) :: t, _, _, h => by
    show (if f ≤ n then _ else _) = _
    rw [if_neg (by have := h (by simp); simp at this; omega)]
    rfl
  | j + 1, [], h, _, _ => by simp at h
  | j + 1, (f, l) :: t, h, hall, h2 => by
    have h0 : f ≤ n := hall 0 (by omega)
    have ih := ins_at n j t (by simpa using h) (fun i hi => by have := hall (i + 1) (by omega); simpa using this) (fun hj => by have := h2 (by simpa using hj); simpa using this)
    show (if f ≤ n then (f, l) :: ins n t else _) = _
    rw [if_pos h0, ih]
    rfl

theorem sweep_snoc (l : List (Int × Int)) (x : Int × Int) : sweep (l ++ [x]) = mstep (sweep l) x := by simp [sweep]

theorem mstep_ne (acc : List (Int × Int)) (x : Int × Int) : mstep acc x ≠ [] := by
  rcases List.eq_nil_or_concat acc with rfl | ⟨a, z, rfl⟩
  · simp [mstep]
  · rw [List.concat_eq_append, mstep_at]
    split
    · split <;> simp
    · simp

/-- Every last number of the sweep is one that went in. -/
theorem mstep_bound {acc : List (Int × Int)} {x : Int × Int} {P : Int → Prop} (h : ∀ z ∈ acc, P z.2) (hx : P x.2) : ∀ z ∈ mstep acc x, P z.2 := by
  rcases List.eq_nil_or_concat acc with rfl | ⟨a, z, rfl⟩
  · intro y hy; simp [mstep] at hy; subst hy; exact hx
  · rw [List.concat_eq_append] at h ⊢
    rw [mstep_at]
    intro y hy
    split at hy
    · split at hy
      · rcases List.mem_append.1 hy with hy | hy
        · exact h y (List.mem_append_left _ hy)
        · simp at hy; subst hy; exact hx
      · exact h y hy
    · rcases List.mem_append.1 hy with hy | hy
      · exact h y hy
      · simp at hy; subst hy; exact hx

theorem sweep_bound {P : Int → Prop} (l : List (Int × Int)) (h : ∀ z ∈ l, P z.2) : ∀ z ∈ sweep l, P z.2 := by
  suffices H : ∀ (l acc : List (Int × Int)), (∀ z ∈ acc, P z.2) → (∀ z ∈ l, P z.2) → ∀ z ∈ l.foldl mstep acc, P z.2 from H l [] (by simp) h
  intro l
  induction l with
  | nil => intro acc ha _; exact ha
  | cons x t ih => intro acc ha hl; exact ih _ (mstep_bound ha (hl x (by simp))) (fun z hz => hl z (by simp [hz]))

theorem mstep_len (acc : List (Int × Int)) (x : Int × Int) : (mstep acc x).length ≤ acc.length + 1 := by
  rcases List.eq_nil_or_concat acc with rfl | ⟨a, z, rfl⟩
  · simp [mstep]
  · rw [List.concat_eq_append, mstep_at]
    split
    · split <;> simp
    · simp

theorem sweep_len (l : List (Int × Int)) : (sweep l).length ≤ l.length := by
  suffices H : ∀ (l acc : List (Int × Int)), (l.foldl mstep acc).length ≤ acc.length + l.length by simpa [sweep] using H l []
  intro l
  induction l with
  | nil => intro acc; simp
  | cons x t ih => intro acc; have := ih (mstep acc x); have := mstep_len acc x; simp only [List.foldl_cons, List.length_cons]; omega

end Go.Proofs.Qxb6630740a

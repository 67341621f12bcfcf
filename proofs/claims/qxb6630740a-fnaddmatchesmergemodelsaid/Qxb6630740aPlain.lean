/- The plain law of sets of intervals: no Go in sight. -/
namespace Go.Proofs.Qxb6630740a

/-- 2^64 - 1, behind a name. -/
def maxU : Int := 18446744073709551615

/-- Ascending, disjoint, apart by at least one number, each begins above lo, none reaches maxU. -/
def CanonFrom (lo : Int) : List (Int × Int) → Prop
  | [] => True
  | (f, l) :: t => lo < f ∧ f ≤ l ∧ l < maxU ∧ CanonFrom (l + 1) t

/-- What Add makes of the intervals. -/
def addIv (n : Int) : List (Int × Int) → List (Int × Int)
  | [] => [(n, n)]
  | (f, l) :: t =>
    if l + 1 < n then (f, l) :: addIv n t
    else if n + 1 < f then (n, n) :: (f, l) :: t
    else if n + 1 = f then (n, l) :: t
    else if n = l + 1 then
      match t with
      | [] => [(f, n)]
      | (f2, l2) :: t2 => if f2 = n + 1 then (f, l2) :: t2 else (f, n) :: (f2, l2) :: t2
    else (f, l) :: t

theorem CanonFrom.mono {lo lo' : Int} : ∀ {ivs : List (Int × Int)}, CanonFrom lo ivs → lo' ≤ lo → CanonFrom lo' ivs
  | [], _, _ => trivial
  | (_, _) :: _, h, hl => ⟨by have := h.1; omega, h.2⟩

theorem canon_add {n : Int} (hn : n < maxU) : ∀ {lo : Int} {ivs : List (Int × Int)}, CanonFrom lo ivs → lo < n → CanonFrom lo (addIv n ivs)
  | _, [], _, hlo => ⟨hlo, Int.le_refl _, hn, trivial⟩
  | lo, (f, l) :: t, ⟨h1, h2, h3, h4⟩, hlo => by
    unfold addIv
    by_cases c1 : l + 1 < n
    · rw [if_pos c1]; exact ⟨h1, h2, h3, canon_add hn h4 c1⟩
    rw [if_neg c1]
    by_cases c2 : n + 1 < f
    · rw [if_pos c2]; exact ⟨hlo, Int.le_refl _, hn, c2, h2, h3, h4⟩
    rw [if_neg c2]
    by_cases c3 : n + 1 = f
    · rw [if_pos c3]; exact ⟨hlo, by omega, h3, h4⟩
    rw [if_neg c3]
    by_cases c4 : n = l + 1
    · rw [if_pos c4]
      match t, h4 with
      | [], _ => exact ⟨h1, by omega, hn, trivial⟩
      | (f2, l2) :: t2, ⟨k1, k2, k3, k4⟩ =>
        show CanonFrom lo (if f2 = n + 1 then (f, l2) :: t2 else (f, n) :: (f2, l2) :: t2)
        by_cases c5 : f2 = n + 1
        · rw [if_pos c5]; exact ⟨h1, by omega, k3, k4⟩
        · rw [if_neg c5]; exact ⟨h1, by omega, hn, by omega, k2, k3, k4⟩
    · rw [if_neg c4]; exact ⟨h1, h2, h3, h4⟩

/-! ### Add by the place at which it works -/

theorem addIv_skip (n : Int) : ∀ (k : Nat) (ivs : List (Int × Int)), k ≤ ivs.length → (∀ j, j < k → (ivs.getD j (0, 0)).2 + 1 < n) → addIv n ivs = ivs.take k ++ addIv n (ivs.drop k)
  | 0, _, _, _ => rfl
  | k + 1, [], h, _ => by simp at h
  | k + 1, (f, l) :: t, h, hall => by
    have h0 : l + 1 < n := hall 0 (by omega)
    have ih := addIv_skip n k t (by simpa using h) (fun j hj => by have := hall (j + 1) (by omega); simpa using this)
    show (if l + 1 < n then (f, l) :: addIv n t else _) = _
    rw [if_pos h0, ih]
    rfl

theorem drop_at {ivs : List (Int × Int)} {k : Nat} (h : k < ivs.length) : ivs.drop k = ((ivs.getD k (0, 0)).1, (ivs.getD k (0, 0)).2) :: ivs.drop (k + 1) := by
  have e : ivs.getD k (0, 0) = ivs[k] := by simp [List.getD, h]
  rw [List.drop_eq_getElem_cons h, e]

theorem addIv_insert {n : Int} {ivs : List (Int × Int)} {k : Nat} (hk : k ≤ ivs.length) (hall : ∀ j, j < k → (ivs.getD j (0, 0)).2 + 1 < n)
    (hc : k < ivs.length → ¬ (ivs.getD k (0, 0)).2 + 1 < n ∧ n + 1 < (ivs.getD k (0, 0)).1) : addIv n ivs = ivs.take k ++ (n, n) :: ivs.drop k := by
  rw [addIv_skip n k ivs hk hall]
  by_cases h : k < ivs.length
  · rw [drop_at h]
    show _ ++ (if _ then _ else if _ then _ else _) = _
    rw [if_neg (hc h).1, if_pos (hc h).2]
  · rw [List.drop_eq_nil_of_le (by omega)]
    rfl

theorem set_at {ivs : List (Int × Int)} {k : Nat} (h : k < ivs.length) (x : Int × Int) : ivs.set k x = ivs.take k ++ x :: ivs.drop (k + 1) := by
  rw [List.set_eq_take_append_cons_drop, if_pos h]

theorem set_merge {ivs : List (Int × Int)} {k : Nat} (h : k < ivs.length) (x : Int × Int) : (ivs.set k x).take (k + 1) ++ (ivs.set k x).drop (k + 1 + 1) = ivs.take k ++ x :: ivs.drop (k + 2) := by
  have hA : (ivs.take k).length = k := by simp; omega
  have e : ivs.set k x = (ivs.take k ++ [x]) ++ ivs.drop (k + 1) := by rw [set_at h]; simp
  have hB : (ivs.take k ++ [x]).length = k + 1 := by simp; omega
  rw [e, List.take_left' hB, List.drop_append, List.drop_eq_nil_of_le (by omega), hB, List.drop_drop]
  simp

theorem addIv_first {n : Int} {ivs : List (Int × Int)} {k : Nat} (hk : k < ivs.length) (hall : ∀ j, j < k → (ivs.getD j (0, 0)).2 + 1 < n)
    (h1 : ¬ (ivs.getD k (0, 0)).2 + 1 < n) (h2 : n + 1 = (ivs.getD k (0, 0)).1) : addIv n ivs = ivs.set k (n, (ivs.getD k (0, 0)).2) := by
  rw [addIv_skip n k ivs (by omega) hall, drop_at hk, set_at hk]
  show _ ++ (if _ then _ else if _ then _ else if _ then _ else _) = _
  rw [if_neg h1, if_neg (by omega), if_pos h2]

theorem addIv_same {n : Int} {ivs : List (Int × Int)} {k : Nat} (hk : k < ivs.length) (hall : ∀ j, j < k → (ivs.getD j (0, 0)).2 + 1 < n)
    (h1 : (ivs.getD k (0, 0)).1 ≤ n) (h2 : n ≤ (ivs.getD k (0, 0)).2) : addIv n ivs = ivs := by
  rw [addIv_skip n k ivs (by omega) hall, drop_at hk]
  show _ ++ (if _ then _ else if _ then _ else if _ then _ else if _ then _ else _) = _
  rw [if_neg (by omega), if_neg (by omega), if_neg (by omega), if_neg (by omega), ← drop_at hk, List.take_append_drop]

theorem addIv_last {n : Int} {ivs : List (Int × Int)} {k : Nat} (hk : k < ivs.length) (hall : ∀ j, j < k → (ivs.getD j (0, 0)).2 + 1 < n)
    (h1 : (ivs.getD k (0, 0)).1 ≤ n) (h2 : n = (ivs.getD k (0, 0)).2 + 1) (h3 : k + 1 < ivs.length → (ivs.getD (k + 1) (0, 0)).1 ≠ n + 1) : addIv n ivs = ivs.set k ((ivs.getD k (0, 0)).1, n) := by
  rw [addIv_skip n k ivs (by omega) hall, set_at hk]
  congr 1
  by_cases h : k + 1 < ivs.length
  · rw [drop_at hk, drop_at h]
    show (if _ then _ else if _ then _ else if _ then _ else if _ then (if _ then _ else _) else _) = _
    rw [if_neg (by omega), if_neg (by omega), if_neg (by omega), if_pos h2, if_neg (h3 h)]
  · rw [drop_at hk, List.drop_eq_nil_of_le (by omega)]
    show (if _ then _ else if _ then _ else if _ then _ else if _ then _ else _) = _
    rw [if_neg (by omega), if_neg (by omega), if_neg (by omega), if_pos h2]

theorem addIv_merge {n : Int} {ivs : List (Int × Int)} {k : Nat} (hk : k + 1 < ivs.length) (hall : ∀ j, j < k → (ivs.getD j (0, 0)).2 + 1 < n)
    (h1 : (ivs.getD k (0, 0)).1 ≤ n) (h2 : n = (ivs.getD k (0, 0)).2 + 1) (h3 : (ivs.getD (k + 1) (0, 0)).1 = n + 1) :
    addIv n ivs = ivs.take k ++ ((ivs.getD k (0, 0)).1, (ivs.getD (k + 1) (0, 0)).2) :: ivs.drop (k + 2) := by
  rw [addIv_skip n k ivs (by omega) hall]
  congr 1
  rw [drop_at (show k < ivs.length by omega), drop_at hk]
  show (if _ then _ else if _ then _ else if _ then _ else if _ then (if _ then _ else _) else _) = _
  rw [if_neg (by omega), if_neg (by omega), if_neg (by omega), if_pos h2, if_pos h3]

/-- The bounds of one interval of a canonical set. -/
theorem canon_at : ∀ {lo : Int} {ivs : List (Int × Int)}, CanonFrom lo ivs → ∀ (k : Nat), k < ivs.length → lo < (ivs.getD k (0, 0)).1 ∧ (ivs.getD k (0, 0)).1 ≤ (ivs.getD k (0, 0)).2 ∧ (ivs.getD k (0, 0)).2 < maxU
  | _, [], _, k, h => by simp at h
  | _, (_, _) :: _, ⟨h1, h2, h3, _⟩, 0, _ => ⟨h1, h2, h3⟩
  | _, (_, _) :: t, ⟨h1, h2, _, h4⟩, k + 1, h => by
    have := canon_at h4 k (by simpa using h)
    simp only [List.getD_cons_succ]
    omega

theorem canon_gap : ∀ {lo : Int} {ivs : List (Int × Int)}, CanonFrom lo ivs → ∀ (k : Nat), k + 1 < ivs.length → (ivs.getD k (0, 0)).2 + 1 < (ivs.getD (k + 1) (0, 0)).1
  | _, [], _, k, h => by simp at h
  | _, (_, _) :: t, ⟨_, _, _, h4⟩, 0, h => by
    have := canon_at h4 0 (by simpa using h)
    simpa using this.1
  | _, (_, _) :: t, ⟨_, _, _, h4⟩, k + 1, h => by
    have := canon_gap h4 k (by simpa using h)
    simpa using this

/-! ### What the intervals cover -/

def Cov (x : Int) : List (Int × Int) → Prop
  | [] => False
  | (f, l) :: t => (f ≤ x ∧ x ≤ l) ∨ Cov x t

theorem cov_above {x : Int} : ∀ {lo : Int} {ivs : List (Int × Int)}, CanonFrom lo ivs → Cov x ivs → lo < x
  | _, [], _, h => h.elim
  | _, (_, _) :: _, ⟨h1, h2, _, h4⟩, h => by
    rcases h with h | h
    · omega
    · have := cov_above h4 h; omega

theorem cov_add {n x : Int} : ∀ {lo : Int} {ivs : List (Int × Int)}, CanonFrom lo ivs → (Cov x (addIv n ivs) ↔ x = n ∨ Cov x ivs)
  | _, [], _ => by simp only [addIv, Cov, or_false]; omega
  | lo, (f, l) :: t, ⟨h1, h2, h3, h4⟩ => by
    unfold addIv
    by_cases c1 : l + 1 < n
    · rw [if_pos c1]
      simp only [Cov, cov_add (n := n) (x := x) h4]
      constructor
      · rintro (h | h | h)
        · exact .inr (.inl h)
        · exact .inl h
        · exact .inr (.inr h)
      · rintro (h | h | h)
        · exact .inr (.inl h)
        · exact .inl h
        · exact .inr (.inr h)
    rw [if_neg c1]
    by_cases c2 : n + 1 < f
    · rw [if_pos c2]; simp only [Cov]
      constructor
      · rintro (h | h)
        · exact .inl (by omega)
        · exact .inr h
      · rintro (h | h)
        · exact .inl (by omega)
        · exact .inr h
    rw [if_neg c2]
    by_cases c3 : n + 1 = f
    · rw [if_pos c3]; simp only [Cov]
      constructor
      · rintro (h | h)
        · by_cases e : x = n
          · exact .inl e
          · exact .inr (.inl (by omega))
        · exact .inr (.inr h)
      · rintro (h | h | h)
        · exact .inl (by omega)
        · exact .inl (by omega)
        · exact .inr h
    rw [if_neg c3]
    by_cases c4 : n = l + 1
    · rw [if_pos c4]
      match t, h4 with
      | [], _ => simp only [Cov, or_false]; omega
      | (f2, l2) :: t2, ⟨k1, k2, k3, k4⟩ =>
        show Cov x (if f2 = n + 1 then (f, l2) :: t2 else (f, n) :: (f2, l2) :: t2) ↔ _
        by_cases c5 : f2 = n + 1
        · rw [if_pos c5]; simp only [Cov]
          constructor
          · rintro (h | h)
            · by_cases e : x ≤ l
              · exact .inr (.inl (by omega))
              · by_cases e2 : x = n
                · exact .inl e2
                · exact .inr (.inr (.inl (by omega)))
            · exact .inr (.inr (.inr h))
          · rintro (h | h | h | h)
            · exact .inl (by omega)
            · exact .inl (by omega)
            · exact .inl (by omega)
            · exact .inr h
        · rw [if_neg c5]; simp only [Cov]
          constructor
          · rintro (h | h)
            · by_cases e : x ≤ l
              · exact .inr (.inl (by omega))
              · exact .inl (by omega)
            · exact .inr (.inr h)
          · rintro (h | h | h)
            · exact .inl (by omega)
            · exact .inl (by omega)
            · exact .inr h
    · rw [if_neg c4]; simp only [Cov]
      constructor
      · exact fun h => .inr h
      · rintro (h | h)
        · exact .inl (by omega)
        · exact h

/-- How many numbers the intervals hold. -/
def tot : List (Int × Int) → Int
  | [] => 0
  | (f, l) :: t => (l - f + 1) + tot t

theorem tot_nonneg : ∀ {lo : Int} {ivs : List (Int × Int)}, CanonFrom lo ivs → 0 ≤ tot ivs
  | _, [], _ => Int.le_refl _
  | _, (_, _) :: _, ⟨_, h2, _, h4⟩ => by have := tot_nonneg h4; simp only [tot]; omega

theorem tot_add_in {n : Int} : ∀ {lo : Int} {ivs : List (Int × Int)}, CanonFrom lo ivs → Cov n ivs → addIv n ivs = ivs
  | _, [], _, h => h.elim
  | lo, (f, l) :: t, ⟨h1, h2, h3, h4⟩, h => by
    unfold addIv
    by_cases c1 : l + 1 < n
    · rw [if_pos c1, tot_add_in h4 (h.resolve_left (by omega))]
    · have hin : f ≤ n ∧ n ≤ l := by
        rcases h with h | h
        · exact h
        · have := cov_above h4 h; omega
      rw [if_neg c1, if_neg (by omega), if_neg (by omega), if_neg (by omega)]

theorem tot_add_out {n : Int} : ∀ {lo : Int} {ivs : List (Int × Int)}, CanonFrom lo ivs → ¬ Cov n ivs → tot (addIv n ivs) = tot ivs + 1
  | _, [], _, _ => by simp [addIv, tot]
  | lo, (f, l) :: t, ⟨h1, h2, h3, h4⟩, h => by
    simp only [Cov, not_or] at h
    unfold addIv
    by_cases c1 : l + 1 < n
    · rw [if_pos c1]; simp only [tot, tot_add_out h4 h.2]; omega
    rw [if_neg c1]
    by_cases c2 : n + 1 < f
    · rw [if_pos c2]; simp only [tot]; omega
    rw [if_neg c2]
    by_cases c3 : n + 1 = f
    · rw [if_pos c3]; simp only [tot]; omega
    rw [if_neg c3]
    by_cases c4 : n = l + 1
    · rw [if_pos c4]
      match t, h4 with
      | [], _ => simp only [tot]; omega
      | (f2, l2) :: t2, ⟨k1, k2, k3, k4⟩ =>
        show tot (if f2 = n + 1 then (f, l2) :: t2 else (f, n) :: (f2, l2) :: t2) = _
        by_cases c5 : f2 = n + 1
        · rw [if_pos c5]; simp only [tot]; omega
        · rw [if_neg c5]; simp only [tot]; omega
    · omega

theorem len_le_tot : ∀ {lo : Int} {ivs : List (Int × Int)}, CanonFrom lo ivs → (ivs.length : Int) ≤ tot ivs
  | _, [], _ => Int.le_refl _
  | _, (_, _) :: _, ⟨_, h2, _, h4⟩ => by have := len_le_tot h4; simp only [tot, List.length_cons]; omega

theorem tot_snoc : ∀ (a : List (Int × Int)) (x : Int × Int), tot (a ++ [x]) = tot a + (x.2 - x.1 + 1)
  | [], (_, _) => by simp [tot]
  | (_, _) :: t, x => by simp only [List.cons_append, tot, tot_snoc t x]; omega

theorem take_at {ivs : List (Int × Int)} {k : Nat} (h : k < ivs.length) : ivs.take (k + 1) = ivs.take k ++ [ivs.getD k (0, 0)] := by
  rw [List.take_succ_eq_append_getElem h]
  congr 2
  simp [List.getD, h]

theorem tot_take {ivs : List (Int × Int)} {k : Nat} (h : k < ivs.length) : tot (ivs.take (k + 1)) = tot (ivs.take k) + ((ivs.getD k (0, 0)).2 - (ivs.getD k (0, 0)).1 + 1) := by
  rw [take_at h, tot_snoc]

theorem canon_take : ∀ {lo : Int} {ivs : List (Int × Int)} (k : Nat), CanonFrom lo ivs → CanonFrom lo (ivs.take k)
  | _, [], k, _ => by simp [CanonFrom]
  | _, (_, _) :: _, 0, _ => trivial
  | _, (_, _) :: _, k + 1, ⟨h1, h2, h3, h4⟩ => ⟨h1, h2, h3, canon_take k h4⟩

theorem tot_take_le : ∀ {lo : Int} {ivs : List (Int × Int)} (k : Nat), CanonFrom lo ivs → tot (ivs.take k) ≤ tot ivs
  | _, [], k, _ => by simp
  | _, (f, l) :: t, 0, h => by have := tot_nonneg h; simpa [tot] using this
  | _, (_, _) :: _, k + 1, ⟨_, _, _, h4⟩ => by have := tot_take_le k h4; simp only [List.take_succ_cons, tot]; omega

theorem cov_at : ∀ {x : Int} {ivs : List (Int × Int)}, Cov x ivs → ∃ i, i < ivs.length ∧ (ivs.getD i (0, 0)).1 ≤ x ∧ x ≤ (ivs.getD i (0, 0)).2
  | _, [], h => h.elim
  | x, (f, l) :: t, h => by
    rcases h with h | h
    · exact ⟨0, by simp, h⟩
    · obtain ⟨i, hi, h⟩ := cov_at h
      exact ⟨i + 1, by simpa using hi, by simpa using h⟩

/-! ### The script: every number of a list is added -/

def script (ns : List Int) : List (Int × Int) := ns.foldl (fun ivs n => addIv n ivs) []

theorem script_snoc (ns : List Int) (n : Int) : script (ns ++ [n]) = addIv n (script ns) := by simp [script]

theorem script_canon : ∀ (ns : List Int), (∀ x ∈ ns, 0 ≤ x ∧ x < maxU) → CanonFrom (-1) (script ns) := by
  intro ns
  suffices H : ∀ (l : List Int) (ivs : List (Int × Int)), CanonFrom (-1) ivs → (∀ x ∈ l, 0 ≤ x ∧ x < maxU) → CanonFrom (-1) (l.foldl (fun ivs n => addIv n ivs) ivs) from fun h => H ns [] trivial h
  intro l
  induction l with
  | nil => intro ivs h _; exact h
  | cons x t ih =>
    intro ivs h hx
    exact ih _ (canon_add (hx x (by simp)).2 h (by have := (hx x (by simp)).1; omega)) (fun y hy => hx y (by simp [hy]))

/-- How many values a list has, each counted once. -/
def nd : List Int → Nat
  | [] => 0
  | x :: t => nd t + if x ∈ t then 0 else 1

theorem nd_perm {l l' : List Int} (h : l.Perm l') : nd l = nd l' := by
  induction h with
  | nil => rfl
  | cons x h ih => simp only [nd, ih, h.mem_iff]
  | swap x y l =>
    simp only [nd, List.mem_cons]
    by_cases e : x = y
    · subst e; rfl
    · have e' : ¬ y = x := fun h => e h.symm
      by_cases hx : x ∈ l <;> by_cases hy : y ∈ l <;> simp [e, e', hx, hy]
  | trans _ _ h1 h2 => exact h1.trans h2

theorem nd_snoc (l : List Int) (x : Int) : nd (l ++ [x]) = nd l + if x ∈ l then 0 else 1 :=
  (nd_perm (List.perm_append_singleton x l)).trans rfl

theorem nd_le : ∀ (l : List Int), nd l ≤ l.length
  | [] => Nat.le_refl _
  | x :: t => by have := nd_le t; simp only [nd, List.length_cons]; split <;> omega

/-- The script's set holds just the list's values; and as many numbers as the list has values. -/
theorem script_cov (ns : List Int) (h : ∀ x ∈ ns, 0 ≤ x ∧ x < maxU) : (∀ x, Cov x (script ns) ↔ x ∈ ns) ∧ tot (script ns) = nd ns := by
  suffices H : ∀ (r : List Int), (∀ x ∈ r.reverse, 0 ≤ x ∧ x < maxU) → (∀ x, Cov x (script r.reverse) ↔ x ∈ r.reverse) ∧ tot (script r.reverse) = nd r.reverse by
    have := H ns.reverse (by simpa using h); simpa using this
  intro r
  induction r with
  | nil => intro _; exact ⟨fun x => by simp [script, Cov], rfl⟩
  | cons n t ih =>
    intro hx
    simp only [List.reverse_cons] at hx ⊢
    have hx' : ∀ x ∈ t.reverse, 0 ≤ x ∧ x < maxU := fun x hm => hx x (List.mem_append_left _ hm)
    obtain ⟨c, d⟩ := ih hx'
    have hc := script_canon t.reverse hx'
    rw [script_snoc, nd_snoc]
    refine ⟨fun x => by rw [cov_add hc, c x]; simp only [List.mem_append, List.mem_singleton]; exact or_comm, ?_⟩
    by_cases hm : n ∈ t.reverse
    · rw [if_pos hm, tot_add_in hc ((c n).2 hm), d]; rfl
    · rw [if_neg hm, tot_add_out hc (fun h => hm ((c n).1 h)), d]; omega

end Go.Proofs.Qxb6630740a

/- The plain law of the ring's peers: no Go in sight. -/
namespace Go.Proofs.Qxb6630693a

/-- x is put behind member j's list. -/
def upd (f : Nat → List Int) (j : Nat) (x : Int) : Nat → List Int := fun i => if i = j then f i ++ [x] else f i

/-- The peers' lists behind the first k links of the ring of n members. -/
def linked (n : Nat) : Nat → Nat → List Int
  | 0 => fun _ => []
  | k + 1 => upd (upd (linked n k) k (((k + 1) % n : Nat) : Int)) ((k + 1) % n) (k : Int)

/-- The same, said outright. -/
def linkedAs (n k j : Nat) : List Int :=
  if j = 0 then (if 0 < k then [1] else []) ++ (if k = n then [(n : Int) - 1] else [])
  else (if j ≤ k then [(j : Int) - 1] else []) ++ (if j < k then [(((j + 1) % n : Nat) : Int)] else [])

theorem linked_eq (n : Nat) (hn : 3 ≤ n) : ∀ k, k ≤ n → ∀ j, j < n → linked n k j = linkedAs n k j
  | 0, _, j, _ => by
    unfold linked linkedAs
    by_cases h : j = 0
    · subst h; simp; omega
    · rw [if_neg h, if_neg (by omega), if_neg (by omega)]; rfl
  | k + 1, hk, j, hj => by
    have ih := linked_eq n hn k (by omega)
    show upd (upd (linked n k) k (((k + 1) % n : Nat) : Int)) ((k + 1) % n) (k : Int) j = _
    have hm : (k + 1) % n = if k + 1 = n then 0 else k + 1 := by
      by_cases e : k + 1 = n
      · rw [if_pos e, e, Nat.mod_self]
      · rw [if_neg e, Nat.mod_eq_of_lt (by omega)]
    unfold upd
    by_cases e : k + 1 = n
    · rw [hm, if_pos e]
      by_cases j0 : j = 0
      · subst j0
        rw [if_pos rfl, if_neg (by omega), ih 0 hj]
        unfold linkedAs
        rw [if_pos rfl, if_pos rfl, if_pos (by omega), if_neg (by omega), if_pos (by omega), if_pos e]
        simp; omega
      · rw [if_neg j0]
        by_cases jk : j = k
        · subst jk
          rw [if_pos rfl, ih j hj]
          unfold linkedAs
          rw [if_neg j0, if_neg j0, if_pos (by omega), if_neg (by omega), if_pos (by omega), if_pos (by omega), hm, if_pos e]
          simp
        · rw [if_neg jk, ih j hj]
          unfold linkedAs
          rw [if_neg j0, if_neg j0, if_pos (by omega), if_pos (by omega), if_pos (by omega), if_pos (by omega)]
    · rw [hm, if_neg e]
      by_cases j1 : j = k + 1
      · subst j1
        rw [if_pos rfl, if_neg (by omega), ih _ hj]
        unfold linkedAs
        rw [if_neg (by omega), if_neg (by omega), if_neg (by omega), if_neg (by omega), if_pos (by omega), if_neg (by omega)]
        simp
      · rw [if_neg j1]
        by_cases jk : j = k
        · subst jk
          rw [if_pos rfl, ih j hj]
          unfold linkedAs
          by_cases j0 : j = 0
          · subst j0
            rw [if_pos rfl, if_pos rfl, if_neg (by omega), if_neg (by omega), if_pos (by omega), if_neg (by omega)]
            simp
          · rw [if_neg j0, if_neg j0, if_pos (by omega), if_neg (by omega), if_pos (by omega), if_pos (by omega), hm, if_neg e]
            simp
        · rw [if_neg jk, ih j hj]
          unfold linkedAs
          by_cases j0 : j = 0
          · subst j0
            rw [if_pos rfl, if_pos rfl, if_pos (by omega), if_neg (by omega), if_pos (by omega), if_neg (by omega)]
          · rw [if_neg j0, if_neg j0]
            by_cases h : j ≤ k
            · rw [if_pos h, if_pos (by omega), if_pos (by omega), if_pos (by omega)]
            · rw [if_neg h, if_neg (by omega), if_neg (by omega), if_neg (by omega)]

theorem linked_len (n : Nat) (hn : 3 ≤ n) (k : Nat) (hk : k ≤ n) (j : Nat) (hj : j < n) : (linked n k j).length ≤ 2 := by
  rw [linked_eq n hn k hk j hj]
  unfold linkedAs
  split <;> rw [List.length_append] <;> split <;> split <;> simp

theorem upd_len (f : Nat → List Int) (j : Nat) (x : Int) (i : Nat) : (upd f j x i).length ≤ (f i).length + 1 := by
  unfold upd
  split <;> simp

/-- Member i's lesser and greater peer in the ring of n. -/
def lo (n i : Nat) : Int := if i = 0 then 1 else if i + 1 = n then 0 else (i : Int) - 1
def hi (n i : Nat) : Int := if i = 0 then (n : Int) - 1 else if i + 1 = n then (n : Int) - 2 else (i : Int) + 1

/-- What every member's list is when all links are laid: its two peers, sorted or not. -/
theorem linked_all (n : Nat) (hn : 3 ≤ n) (j : Nat) (hj : j < n) : ∃ a b : Int, linked n n j = [a, b] ∧ a ≠ b ∧ a ≠ j ∧ b ≠ j ∧ (if a ≤ b then a else b) = lo n j ∧ (if a ≤ b then b else a) = hi n j := by
  rw [linked_eq n hn n (Nat.le_refl _) j hj]
  unfold linkedAs lo hi
  by_cases j0 : j = 0
  · subst j0
    refine ⟨1, (n : Int) - 1, ?_, ?_, ?_, ?_, ?_, ?_⟩
    · rw [if_pos rfl, if_pos (by omega), if_pos rfl]; rfl
    · omega
    · omega
    · omega
    · rw [if_pos (by omega), if_pos rfl]
    · rw [if_pos (by omega), if_pos rfl]
  · rw [if_neg j0, if_pos (by omega), if_pos hj, if_neg j0, if_neg j0]
    by_cases e : j + 1 = n
    · refine ⟨(j : Int) - 1, 0, ?_, ?_, ?_, ?_, ?_, ?_⟩
      · rw [e, Nat.mod_self]; rfl
      · omega
      · omega
      · omega
      · rw [if_neg (by omega), if_pos e]
      · rw [if_neg (by omega), if_pos e]; omega
    · refine ⟨(j : Int) - 1, (j : Int) + 1, ?_, ?_, ?_, ?_, ?_, ?_⟩
      · rw [Nat.mod_eq_of_lt (by omega)]; simp
      · omega
      · omega
      · omega
      · rw [if_pos (by omega), if_neg e]
      · rw [if_pos (by omega), if_neg e]

theorem lo_lt_hi (n i : Nat) (hn : 3 ≤ n) (_hi : i < n) : lo n i < hi n i := by unfold lo hi; split <;> (try split) <;> omega
theorem lo_ge (n i : Nat) : 0 ≤ lo n i := by unfold lo; split <;> (try split) <;> omega
theorem hi_lt (n i : Nat) (_hn : 3 ≤ n) (_hi : i < n) : hi n i < n := by unfold hi; split <;> (try split) <;> omega

end Go.Proofs.Qxb6630693a

import Derived.Test.Qxb6630740aTests
/- Plain lemmas on the model's rows. -/
namespace Go.Proofs.Qxb6630740a

/-- z with n laid at place i, up to z's place q. -/
def mid (z : List Int) (n : Int) (i q : Nat) : List Int := z.take i ++ [n] ++ (z.take q).drop i

theorem mid_start (z : List Int) (n : Int) (i : Nat) : mid z n i i = z.take i ++ [n] := by
  unfold mid
  rw [List.drop_eq_nil_of_le (by rw [List.length_take]; omega), List.append_nil]

theorem mid_succ {z : List Int} {n : Int} {i q : Nat} (hi : i ≤ q) (hq : q < z.length) : mid z n i (q + 1) = mid z n i q ++ [z.getD q 0] := by
  unfold mid
  rw [List.take_succ_eq_append_getElem hq, List.drop_append_of_le_length (by rw [List.length_take]; omega), ← List.append_assoc]
  congr 2
  simp [List.getD, hq]

theorem mid_zip {z1 z2 : List Int} {n : Int} {i k : Nat} (l1 : z1.length = k) (l2 : z2.length = k) (hi : i ≤ k) (h1 : ∀ j, j < i → z1.getD j 0 ≤ n) (h2 : i < k → n < z1.getD i 0) :
    (ins n (z1.zip z2)).map (·.1) = mid z1 n i k ∧ (ins n (z1.zip z2)).map (·.2) = mid z2 n i k := by
  have hz : ∀ j, j < k → ((z1.zip z2).getD j (0, 0)).1 = z1.getD j 0 := fun j hj => by
    have hl : j < (z1.zip z2).length := by simp; omega
    simp [List.getD, List.getElem?_eq_getElem hl, show j < z1.length by omega]
  rw [ins_at n i (z1.zip z2) (by simp; omega) (fun j hj => by rw [hz j (by omega)]; exact h1 j hj) (fun h => by simp at h; rw [hz i (by omega)]; exact h2 (by omega))]
  have m1 : (z1.zip z2).map (·.1) = z1 := List.map_fst_zip (by omega)
  have m2 : (z1.zip z2).map (·.2) = z2 := List.map_snd_zip (by omega)
  unfold mid
  rw [List.take_of_length_le (show z1.length ≤ k by omega), List.take_of_length_le (show z2.length ≤ k by omega)]
  constructor
  · simp only [List.map_append, List.map_take, List.map_drop, List.map_cons, m1]
    try rfl
    try simp
  · simp only [List.map_append, List.map_take, List.map_drop, List.map_cons, m2]
    try rfl
    try simp

theorem ins_len (n : Int) : ∀ l : List (Int × Int), (ins n l).length = l.length + 1
  | [] => rfl
  | (f, _) :: t => by
    unfold ins
    split
    · rw [List.length_cons, ins_len n t, List.length_cons]
    · simp

theorem ins_mem {n : Int} : ∀ {l : List (Int × Int)} {x : Int × Int}, x ∈ ins n l → x = (n, n) ∨ x ∈ l
  | [], x, h => by simp [ins] at h; exact .inl h
  | (f, g) :: t, x, h => by
    unfold ins at h
    split at h
    · rcases List.mem_cons.1 h with e | e
      · exact .inr (by rw [e]; exact List.mem_cons_self)
      · rcases ins_mem e with e | e
        · exact .inl e
        · exact .inr (List.mem_cons_of_mem _ e)
    · rcases List.mem_cons.1 h with e | e
      · exact .inl e
      · exact .inr e

theorem take_snoc2 {z : List (Int × Int)} {i : Nat} (h : i < z.length) : z.take (i + 1) = z.take i ++ [z[i]] := List.take_succ_eq_append_getElem h

theorem getD_map1 {z : List (Int × Int)} {i : Nat} (h : i < z.length) : (z.map (·.1)).getD i 0 = z[i].1 := by simp [List.getD, h]
theorem getD_map2 {z : List (Int × Int)} {i : Nat} (h : i < z.length) : (z.map (·.2)).getD i 0 = z[i].2 := by simp [List.getD, h]

end Go.Proofs.Qxb6630740a

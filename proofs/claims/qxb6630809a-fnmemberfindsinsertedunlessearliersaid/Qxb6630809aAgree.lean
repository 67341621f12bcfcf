import Derived.Test.Qxb6630809aFits
import Derived.Laws.StructEq
/- FnMemberAgreesAcrossAnyCut: the walk. -/
namespace Go.Proofs.Qxb6630809a
open Go.RowKit

theorem cell_in {w : World} {b j : Nat} {cs : Array Value} {t : TypeId} {fr : Nat × Nat} {v : Value} (h : w.heap[b]? = some (.cells cs t fr)) (hc : cs[j]? = some v) : w.cell? ⟨b, j, none⟩ = some v := by
  simp only [World.cell?]
  rw [h]
  exact hc

theorem seg_cut (M : Nat → Mb) {k n : Nat} (h : k ≤ n) : seg M 0 n = seg M 0 k ++ seg M k n := by
  unfold seg
  rw [show n - 0 = k + (n - k) from by omega, show k - 0 = k from by omega, List.range_add, List.map_append, List.map_map]
  congr 1
  apply List.map_congr_left
  intro j _
  simp

theorem look_app (id : Int) (a b : List Mb) : look id (a ++ b) = (look id a).or (look id b) := by
  unfold look
  rw [List.find?_append]

theorem look_some {id : Int} {l : List Mb} {m : Mb} (h : look id l = some m) : m.1 = id ∧ m ∈ l := by
  unfold look at h
  exact ⟨by have := List.find?_some h; simpa using this, List.mem_of_find?_eq_some h⟩

theorem look_none {id : Int} {l : List Mb} (h : look id l = none) : ∀ m ∈ l, m.1 ≠ id := by
  unfold look at h
  intro m hm e
  have := (List.find?_eq_none.1 h) m hm
  simp [e] at this

theorem mem_seg {M : Nat → Mb} {n : Nat} {m : Mb} (h : m ∈ seg M 0 n) : ∃ i, i < n ∧ m = M i := by
  simp [seg] at h
  obtain ⟨j, hj, e⟩ := h
  exact ⟨j, hj, e.symm⟩

theorem seg_mem {M : Nat → Mb} {n i : Nat} (h : i < n) : M i ∈ seg M 0 n := by
  simp [seg]
  exact ⟨i, h, rfl⟩


set_option maxRecDepth 100000 in
set_option maxHeartbeats 3200000 in
theorem agree_mid (x id : Int) (a1 a2 a3 : Option Addr) (n c1 c2 c3 k : Nat) (I : Nat → Int) (S : Nat → ByteArray) (V : Nat → Bool) (w : World) (hk : k ≤ n)
    (r1 : RowAt w w.heap.size a1 n (fun i => .int .u16 (I i))) (r2 : RowAt w w.heap.size a2 n (fun i => .string (S i))) (r3 : RowAt w w.heap.size a3 n (fun i => .bool (V i))) :
    Calls Try.prog 3 #[.int .u64 x, .slice a1 n c1, .slice a2 n c2, .slice a3 n c3, .int .i64 k, .int .u16 id] w fun e w' => e = .returned (.bool true) ∧ Below w.heap.size w w' := by
  have HR : Hid (RowAt w w.heap.size a1 n (fun i => .int .u16 (I i)) ∧ RowAt w w.heap.size a2 n (fun i => .string (S i)) ∧ RowAt w w.heap.size a3 n (fun i => .bool (V i))) := ⟨r1, r2, r3⟩
  clear r1 r2 r3
  have hk1 : (k : Int) ≤ n := by omega
  go_enter Try.func3, Try.ntmps3
  go_wp2_with fail
  refine (bytes5_calls x id k a1 a2 a3 n c1 n c2 n c3 S w HR.out.2.1).mono ?_
  rintro e w ⟨⟨bb, rfl, hbb⟩, rfl⟩
  cases bb with
  | false =>
    go_wp2_with fail
    go_ret
    exact ⟨rfl, Below.refl _ _⟩
  | true =>
  have HSH : Hid (Short S n) := hbb rfl
  clear hbb
  go_wp2_with fail
  refine (fit_calls 0 a1 a2 a3 n c1 n c2 n c3 S w HSH.out HR.out.2.1 (by omega) (by omega)).mono ?_
  rintro e w ⟨⟨bb, rfl, hbb⟩, rfl⟩
  cases bb with
  | false =>
    go_wp2_with fail
    go_ret
    exact ⟨rfl, Below.refl _ _⟩
  | true =>
  have hn : n ≤ 65536 := hbb rfl
  have hn1 : (n : Int) ≤ 65536 := by omega
  clear hbb HSH
  go_wp2_with fail
  refine (config_calls x a1 a2 a3 n c1 c2 c3 0 n I S V w (Nat.zero_le _) (Nat.le_refl _) hn HR.out.1 HR.out.2.1 HR.out.2.2).mono ?_
  rintro e w1 ⟨⟨b1, rfl, ho⟩, hb⟩
  have H1 : Hid (OwnM (w1.alloc (.cells #[.int .u64 x, .slice (some ⟨b1, 0, none⟩) n n] 31)) w.heap.size b1 n n (seg (fun i => (I i, S i, V i)) 0 n) ∧
      (w1.alloc (.cells #[.int .u64 x, .slice (some ⟨b1, 0, none⟩) n n] 31)).heap[w1.heap.size]? = some (.cells #[.int .u64 x, .slice (some ⟨b1, 0, none⟩) n n] 31 (0, 0)) ∧
      Below w.heap.size w (w1.alloc (.cells #[.int .u64 x, .slice (some ⟨b1, 0, none⟩) n n] 31)) ∧ w1.heap.size < (w1.alloc (.cells #[.int .u64 x, .slice (some ⟨b1, 0, none⟩) n n] 31)).heap.size) :=
    ⟨World.ownsRow.alloc ho _, heap_alloc_new _ _, hb.alloc hb.size _, by simp⟩
  clear ho hb
  go_wp2_with fail
  generalize w1.alloc (.cells #[.int .u64 x, .slice (some ⟨b1, 0, none⟩) n n] 31) = W1 at *
  generalize w1.heap.size = g1 at *
  refine (config_calls x a1 a2 a3 n c1 c2 c3 0 k I S V W1 (Nat.zero_le _) hk hn ((HR.out.1.kept H1.out.2.2.1).mono H1.out.2.2.1.size) ((HR.out.2.1.kept H1.out.2.2.1).mono H1.out.2.2.1.size) ((HR.out.2.2.kept H1.out.2.2.1).mono H1.out.2.2.1.size)).mono ?_
  rintro e w2 ⟨⟨b2, rfl, ho⟩, hb⟩
  have H2 : Hid (OwnM (w2.alloc (.cells #[.int .u64 x, .slice (some ⟨b2, 0, none⟩) (k) (k)] 31)) w.heap.size b1 n n (seg (fun i => (I i, S i, V i)) 0 n) ∧ (w2.alloc (.cells #[.int .u64 x, .slice (some ⟨b2, 0, none⟩) (k) (k)] 31)).heap[g1]? = some (.cells #[.int .u64 x, .slice (some ⟨b1, 0, none⟩) (n) (n)] 31 (0, 0)) ∧ OwnM (w2.alloc (.cells #[.int .u64 x, .slice (some ⟨b2, 0, none⟩) (k) (k)] 31)) W1.heap.size b2 k k (seg (fun i => (I i, S i, V i)) 0 k) ∧ (w2.alloc (.cells #[.int .u64 x, .slice (some ⟨b2, 0, none⟩) (k) (k)] 31)).heap[w2.heap.size]? = some (.cells #[.int .u64 x, .slice (some ⟨b2, 0, none⟩) (k) (k)] 31 (0, 0)) ∧ Below w.heap.size w (w2.alloc (.cells #[.int .u64 x, .slice (some ⟨b2, 0, none⟩) (k) (k)] 31)) ∧ g1 < (w2.alloc (.cells #[.int .u64 x, .slice (some ⟨b2, 0, none⟩) (k) (k)] 31)).heap.size ∧ w2.heap.size < (w2.alloc (.cells #[.int .u64 x, .slice (some ⟨b2, 0, none⟩) (k) (k)] 31)).heap.size) :=
    ⟨World.ownsRow.alloc (H1.out.1.below hb H1.out.1.lt.2) _, (Below.heap_alloc _ _ _ (by have := hb.size; have := H1.out.2.2.2; omega)).trans ((hb.block _ H1.out.2.2.2).trans H1.out.2.1), World.ownsRow.alloc ho _, heap_alloc_new _ _,
      (H1.out.2.2.1.trans (hb.mono H1.out.2.2.1.size)).alloc (by have := hb.size; have := H1.out.2.2.1.size; omega) _, by have := hb.size; have := H1.out.2.2.2; simp; omega, by simp⟩
  clear ho hb H1
  go_wp2_with fail
  generalize (w2.alloc (.cells #[.int .u64 x, .slice (some ⟨b2, 0, none⟩) (k) (k)] 31)) = W2 at *
  generalize w2.heap.size = g2 at *
  generalize W1.heap.size = B1 at *
  refine (config_calls x a1 a2 a3 n c1 c2 c3 k n I S V W2 hk (Nat.le_refl _) hn ((HR.out.1.kept H2.out.2.2.2.2.1).mono H2.out.2.2.2.2.1.size) ((HR.out.2.1.kept H2.out.2.2.2.2.1).mono H2.out.2.2.2.2.1.size) ((HR.out.2.2.kept H2.out.2.2.2.2.1).mono H2.out.2.2.2.2.1.size)).mono ?_
  rintro e w3 ⟨⟨b3, rfl, ho⟩, hb⟩
  have H3 : Hid (OwnM (w3.alloc (.cells #[.int .u64 x, .slice (some ⟨b3, 0, none⟩) (n - k) (n - k)] 31)) w.heap.size b1 n n (seg (fun i => (I i, S i, V i)) 0 n) ∧ (w3.alloc (.cells #[.int .u64 x, .slice (some ⟨b3, 0, none⟩) (n - k) (n - k)] 31)).heap[g1]? = some (.cells #[.int .u64 x, .slice (some ⟨b1, 0, none⟩) (n) (n)] 31 (0, 0)) ∧ OwnM (w3.alloc (.cells #[.int .u64 x, .slice (some ⟨b3, 0, none⟩) (n - k) (n - k)] 31)) B1 b2 k k (seg (fun i => (I i, S i, V i)) 0 k) ∧ (w3.alloc (.cells #[.int .u64 x, .slice (some ⟨b3, 0, none⟩) (n - k) (n - k)] 31)).heap[g2]? = some (.cells #[.int .u64 x, .slice (some ⟨b2, 0, none⟩) (k) (k)] 31 (0, 0)) ∧ OwnM (w3.alloc (.cells #[.int .u64 x, .slice (some ⟨b3, 0, none⟩) (n - k) (n - k)] 31)) W2.heap.size b3 (n - k) (n - k) (seg (fun i => (I i, S i, V i)) k n) ∧ (w3.alloc (.cells #[.int .u64 x, .slice (some ⟨b3, 0, none⟩) (n - k) (n - k)] 31)).heap[w3.heap.size]? = some (.cells #[.int .u64 x, .slice (some ⟨b3, 0, none⟩) (n - k) (n - k)] 31 (0, 0)) ∧
      Below w.heap.size w (w3.alloc (.cells #[.int .u64 x, .slice (some ⟨b3, 0, none⟩) (n - k) (n - k)] 31)) ∧ g1 < (w3.alloc (.cells #[.int .u64 x, .slice (some ⟨b3, 0, none⟩) (n - k) (n - k)] 31)).heap.size ∧ g2 < (w3.alloc (.cells #[.int .u64 x, .slice (some ⟨b3, 0, none⟩) (n - k) (n - k)] 31)).heap.size ∧ w3.heap.size < (w3.alloc (.cells #[.int .u64 x, .slice (some ⟨b3, 0, none⟩) (n - k) (n - k)] 31)).heap.size) :=
    ⟨World.ownsRow.alloc (H2.out.1.below hb H2.out.1.lt.2) _, (Below.heap_alloc _ _ _ (by have := hb.size; have := H2.out.2.2.2.2.2.1; omega)).trans ((hb.block _ H2.out.2.2.2.2.2.1).trans H2.out.2.1),
      World.ownsRow.alloc (H2.out.2.2.1.below hb H2.out.2.2.1.lt.2) _, (Below.heap_alloc _ _ _ (by have := hb.size; have := H2.out.2.2.2.2.2.2; omega)).trans ((hb.block _ H2.out.2.2.2.2.2.2).trans H2.out.2.2.2.1),
      World.ownsRow.alloc ho _, heap_alloc_new _ _,
      (H2.out.2.2.2.2.1.trans (hb.mono H2.out.2.2.2.2.1.size)).alloc (by have := hb.size; have := H2.out.2.2.2.2.1.size; omega) _, by have := hb.size; have := H2.out.2.2.2.2.2.1; simp; omega, by have := hb.size; have := H2.out.2.2.2.2.2.2; simp; omega, by simp⟩
  clear ho hb H2
  have hdec : Hid ((∃ m, look id (seg (fun i => (I i, S i, V i)) 0 n) = some m ∧ look id (seg (fun i => (I i, S i, V i)) 0 k) = some m) ∨ (∃ m, look id (seg (fun i => (I i, S i, V i)) 0 n) = some m ∧ look id (seg (fun i => (I i, S i, V i)) 0 k) = none ∧ look id (seg (fun i => (I i, S i, V i)) k n) = some m) ∨ (look id (seg (fun i => (I i, S i, V i)) 0 n) = none ∧ look id (seg (fun i => (I i, S i, V i)) 0 k) = none ∧ look id (seg (fun i => (I i, S i, V i)) k n) = none)) := by
    have hc := seg_cut (fun i => (I i, S i, V i)) hk
    have ha := look_app id (seg (fun i => (I i, S i, V i)) 0 k) (seg (fun i => (I i, S i, V i)) k n)
    rw [← hc] at ha
    show (∃ m, _) ∨ _
    cases h1 : look id (seg (fun i => (I i, S i, V i)) 0 k) with
    | some m => rw [h1] at ha; exact .inl ⟨m, ha, rfl⟩
    | none =>
      rw [h1] at ha
      cases h2 : look id (seg (fun i => (I i, S i, V i)) k n) with
      | some m => rw [h2] at ha; exact .inr (.inl ⟨m, ha, rfl, rfl⟩)
      | none => rw [h2] at ha; exact .inr (.inr ⟨ha, rfl, rfl⟩)
  -- the first lookup
  have hw1 : w3.heap.size + 0 = w3.heap.size := rfl
  clear hw1
  have q0 : (w3.alloc (.cells #[.int .u64 x, .slice (some ⟨b3, 0, none⟩) (n - k) (n - k)] 31)).cell? ⟨g1, 0, none⟩ = some (.int .u64 x) := by simp [World.cell?, H3.out.2.1]
  have q1 : (w3.alloc (.cells #[.int .u64 x, .slice (some ⟨b3, 0, none⟩) (n - k) (n - k)] 31)).cell? ⟨g1, 1, none⟩ = some (.slice (some ⟨b1, 0, none⟩) n n) := by simp [World.cell?, H3.out.2.1]
  generalize hg3 : w3.heap.size = g3 at *
  generalize W2.heap.size = B2 at *
  go_wp2_with fail
  generalize (w3.alloc (.cells #[.int .u64 x, .slice (some ⟨b3, 0, none⟩) (n - k) (n - k)] 31)) = W3 at *
  clear q0 q1 hg3
  have HD := hdec.out
  clear hdec
  rcases HD with ⟨m, hl1, hl2⟩ | ⟨m, hl1, hl2, hl3⟩ | ⟨hl1, hl2, hl3⟩
  · have HX : Hid (∃ i, i < n ∧ I i = id) := by
      obtain ⟨hm1, hm2⟩ := look_some hl1
      obtain ⟨i, hi, e⟩ := mem_seg hm2
      exact ⟨i, hi, by rw [← hm1, e]⟩
    have hy : m.1 = id := (look_some hl1).1
    obtain ⟨y, s, v⟩ := m
    simp only at hy
    subst hy
    obtain ⟨so, hl3⟩ : ∃ so, look y (seg (fun i => (I i, S i, V i)) k n) = so := ⟨_, rfl⟩
    obtain ⟨sm, hsm⟩ : ∃ sm, so.getD zeroM = sm := ⟨_, rfl⟩
    obtain ⟨sy, ss, sv⟩ := sm
    obtain ⟨sb, hsb⟩ : ∃ sb, so.isSome = sb := ⟨_, rfl⟩
    have M1 : Hid (∀ W : World, OwnM W w.heap.size b1 (n) (n) (seg (fun i => (I i, S i, V i)) 0 n) → Calls Try.prog 8 #[.agg #[.int .u64 x, .slice (some ⟨b1, 0, none⟩) (n) (n)], .int .u16 y] W fun e w' => e = .returned (.tuple #[.agg #[.int .u16 y, .string s, .bool v], .bool true]) ∧ Below W.heap.size W w') := fun W ho => by
      have h := member_calls x y b1 (n) _ (seg (fun i => (I i, S i, V i)) 0 n) W (by omega) ho
      rw [hl1] at h
      exact h
    have M2 : Hid (∀ W : World, OwnM W B1 b2 (k) (k) (seg (fun i => (I i, S i, V i)) 0 k) → Calls Try.prog 8 #[.agg #[.int .u64 x, .slice (some ⟨b2, 0, none⟩) (k) (k)], .int .u16 y] W fun e w' => e = .returned (.tuple #[.agg #[.int .u16 y, .string s, .bool v], .bool true]) ∧ Below W.heap.size W w') := fun W ho => by
      have h := member_calls x y b2 (k) _ (seg (fun i => (I i, S i, V i)) 0 k) W (by omega) ho
      rw [hl2] at h
      exact h
    have M3 : Hid (∀ W : World, OwnM W B2 b3 (n - k) (n - k) (seg (fun i => (I i, S i, V i)) k n) → Calls Try.prog 8 #[.agg #[.int .u64 x, .slice (some ⟨b3, 0, none⟩) (n - k) (n - k)], .int .u16 y] W fun e w' => e = .returned (.tuple #[.agg #[.int .u16 sy, .string ss, .bool sv], .bool sb]) ∧ Below W.heap.size W w') := fun W ho => by
      have h := member_calls x y b3 (n - k) _ (seg (fun i => (I i, S i, V i)) k n) W (by omega) ho
      rw [hl3, hsm, hsb] at h
      exact h
    clear hl1 hl2 hl3 hsm hsb
    refine (M1.out W3 H3.out.1).mono ?_
    rintro e v1 ⟨rfl, hb⟩
    have K1 : Hid (OwnM (v1.alloc (.cells #[.int .u16 y, .string s, .bool v] 35)) B1 b2 k k (seg (fun i => (I i, S i, V i)) 0 k) ∧ OwnM (v1.alloc (.cells #[.int .u16 y, .string s, .bool v] 35)) B2 b3 (n - k) (n - k) (seg (fun i => (I i, S i, V i)) k n) ∧ (v1.alloc (.cells #[.int .u16 y, .string s, .bool v] 35)).heap[g2]? = some (.cells #[.int .u64 x, .slice (some ⟨b2, 0, none⟩) (k) (k)] 31 (0, 0)) ∧ (v1.alloc (.cells #[.int .u16 y, .string s, .bool v] 35)).heap[g3]? = some (.cells #[.int .u64 x, .slice (some ⟨b3, 0, none⟩) (n - k) (n - k)] 31 (0, 0)) ∧ (v1.alloc (.cells #[.int .u16 y, .string s, .bool v] 35)).heap[v1.heap.size]? = some (.cells #[.int .u16 y, .string s, .bool v] 35 (0, 0)) ∧ Below w.heap.size w (v1.alloc (.cells #[.int .u16 y, .string s, .bool v] 35)) ∧ g2 < (v1.alloc (.cells #[.int .u16 y, .string s, .bool v] 35)).heap.size ∧ g3 < (v1.alloc (.cells #[.int .u16 y, .string s, .bool v] 35)).heap.size ∧ v1.heap.size < (v1.alloc (.cells #[.int .u16 y, .string s, .bool v] 35)).heap.size) := by
      obtain ⟨_, _, o2, e2, o3, e3, bl, _, s2, s3⟩ := H3.out
      have hs := hb.size
      have hs2 := bl.size
      exact ⟨World.ownsRow.alloc (o2.below hb o2.lt.2) _, World.ownsRow.alloc (o3.below hb o3.lt.2) _, (Below.heap_alloc _ _ _ (by omega)).trans ((hb.block _ s2).trans e2), (Below.heap_alloc _ _ _ (by omega)).trans ((hb.block _ s3).trans e3), heap_alloc_new _ _,
        (bl.trans (hb.mono hs2)).alloc (by omega) _, by simp; omega, by simp; omega, by simp⟩
    have q0 : (v1.alloc (.cells #[.int .u16 y, .string s, .bool v] 35)).cell? ⟨g2, 0, none⟩ = some (.int .u64 x) := by simp [World.cell?, K1.out.2.2.1]
    have q1 : (v1.alloc (.cells #[.int .u16 y, .string s, .bool v] 35)).cell? ⟨g2, 1, none⟩ = some (.slice (some ⟨b2, 0, none⟩) k k) := by simp [World.cell?, K1.out.2.2.1]
    clear hb H3
    go_wp2_with fail
    generalize (v1.alloc (.cells #[.int .u16 y, .string s, .bool v] 35)) = V1 at *
    generalize v1.heap.size = p1 at *
    clear q0 q1
    refine (M2.out V1 K1.out.1).mono ?_
    rintro e v2 ⟨rfl, hb⟩
    have K2 : Hid (OwnM (v2.alloc (.cells #[.int .u16 y, .string s, .bool v] 35)) B2 b3 (n - k) (n - k) (seg (fun i => (I i, S i, V i)) k n) ∧ (v2.alloc (.cells #[.int .u16 y, .string s, .bool v] 35)).heap[g3]? = some (.cells #[.int .u64 x, .slice (some ⟨b3, 0, none⟩) (n - k) (n - k)] 31 (0, 0)) ∧ (v2.alloc (.cells #[.int .u16 y, .string s, .bool v] 35)).heap[p1]? = some (.cells #[.int .u16 y, .string s, .bool v] 35 (0, 0)) ∧ (v2.alloc (.cells #[.int .u16 y, .string s, .bool v] 35)).heap[v2.heap.size]? = some (.cells #[.int .u16 y, .string s, .bool v] 35 (0, 0)) ∧ Below w.heap.size w (v2.alloc (.cells #[.int .u16 y, .string s, .bool v] 35)) ∧ g3 < (v2.alloc (.cells #[.int .u16 y, .string s, .bool v] 35)).heap.size ∧ p1 < (v2.alloc (.cells #[.int .u16 y, .string s, .bool v] 35)).heap.size ∧ v2.heap.size < (v2.alloc (.cells #[.int .u16 y, .string s, .bool v] 35)).heap.size) := by
      obtain ⟨_, o3, _, e3, ep, bl, _, s3, sp⟩ := K1.out
      have hs := hb.size
      have hs2 := bl.size
      exact ⟨World.ownsRow.alloc (o3.below hb o3.lt.2) _, (Below.heap_alloc _ _ _ (by omega)).trans ((hb.block _ s3).trans e3), (Below.heap_alloc _ _ _ (by omega)).trans ((hb.block _ sp).trans ep), heap_alloc_new _ _,
        (bl.trans (hb.mono hs2)).alloc (by omega) _, by simp; omega, by simp; omega, by simp⟩
    have q0 : (v2.alloc (.cells #[.int .u16 y, .string s, .bool v] 35)).cell? ⟨g3, 0, none⟩ = some (.int .u64 x) := by simp [World.cell?, K2.out.2.1]
    have q1 : (v2.alloc (.cells #[.int .u16 y, .string s, .bool v] 35)).cell? ⟨g3, 1, none⟩ = some (.slice (some ⟨b3, 0, none⟩) (n - k) (n - k)) := by simp [World.cell?, K2.out.2.1]
    clear hb K1
    go_wp2_with fail
    generalize (v2.alloc (.cells #[.int .u16 y, .string s, .bool v] 35)) = V2 at *
    generalize v2.heap.size = p2 at *
    clear q0 q1
    refine (M3.out V2 K2.out.1).mono ?_
    rintro e v3 ⟨rfl, hb⟩
    have K3 : Hid (((v3.alloc (.cells #[.int .u16 sy, .string ss, .bool sv] 35)).alloc (.cells #[.int .u16 y, .string s, .bool v] 35)).heap[p1]? = some (.cells #[.int .u16 y, .string s, .bool v] 35 (0, 0)) ∧ Below w.heap.size w ((v3.alloc (.cells #[.int .u16 sy, .string ss, .bool sv] 35)).alloc (.cells #[.int .u16 y, .string s, .bool v] 35)) ∧ ((v3.alloc (.cells #[.int .u16 sy, .string ss, .bool sv] 35)).alloc (.cells #[.int .u16 y, .string s, .bool v] 35)).heap[v3.heap.size + 1]? = some (.cells #[.int .u16 y, .string s, .bool v] 35 (0, 0))) := by
      obtain ⟨_, _, ep, _, bl, _, sp, _⟩ := K2.out
      have hs := hb.size
      have hs2 := bl.size
      refine ⟨(Below.heap_alloc _ _ _ (by simp; omega)).trans ((Below.heap_alloc _ _ _ (by omega)).trans ((hb.block _ sp).trans ep)), ((bl.trans (hb.mono hs2)).alloc (by omega) _).alloc (by simp; omega) _, ?_⟩
      have := heap_alloc_new (v3.alloc (.cells #[.int .u16 sy, .string ss, .bool sv] 35)) (.cells #[.int .u16 y, .string s, .bool v] 35)
      simpa using this
    have q5 : v3.heap[p2]? = some (.cells #[.int .u16 y, .string s, .bool v] 35 (0, 0)) ∧ p2 < v3.heap.size := by
      obtain ⟨_, _, _, e2, bl, _, _, s2⟩ := K2.out
      exact ⟨(hb.block _ s2).trans e2, by have := hb.size; omega⟩
    have y0 : v3.cell? ⟨p2, 0, none⟩ = some (.int .u16 y) := by simp [World.cell?, q5.1]
    have y1 : v3.cell? ⟨p2, 1, none⟩ = some (.string s) := by simp [World.cell?, q5.1]
    have y2 : v3.cell? ⟨p2, 2, none⟩ = some (.bool v) := by simp [World.cell?, q5.1]
    have y3 : p2 < v3.heap.size := q5.2
    clear q5 hb K2
    have z0 : ((v3.alloc (.cells #[.int .u16 sy, .string ss, .bool sv] 35)).alloc (.cells #[.int .u16 y, .string s, .bool v] 35)).cell? ⟨p1, 0, none⟩ = some (.int .u16 y) := cell_in K3.out.1 rfl
    have z1 : ((v3.alloc (.cells #[.int .u16 sy, .string ss, .bool sv] 35)).alloc (.cells #[.int .u16 y, .string s, .bool v] 35)).cell? ⟨p1, 1, none⟩ = some (.string s) := cell_in K3.out.1 rfl
    have z2 : ((v3.alloc (.cells #[.int .u16 sy, .string ss, .bool sv] 35)).alloc (.cells #[.int .u16 y, .string s, .bool v] 35)).cell? ⟨p1, 2, none⟩ = some (.bool v) := cell_in K3.out.1 rfl
    have z3 : ((v3.alloc (.cells #[.int .u16 sy, .string ss, .bool sv] 35)).alloc (.cells #[.int .u16 y, .string s, .bool v] 35)).cell? ⟨v3.heap.size + 1, 0, none⟩ = some (.int .u16 y) := cell_in K3.out.2.2 rfl
    have z4 : ((v3.alloc (.cells #[.int .u16 sy, .string ss, .bool sv] 35)).alloc (.cells #[.int .u16 y, .string s, .bool v] 35)).cell? ⟨v3.heap.size + 1, 1, none⟩ = some (.string s) := cell_in K3.out.2.2 rfl
    have z5 : ((v3.alloc (.cells #[.int .u16 sy, .string ss, .bool sv] 35)).alloc (.cells #[.int .u16 y, .string s, .bool v] 35)).cell? ⟨v3.heap.size + 1, 2, none⟩ = some (.bool v) := cell_in K3.out.2.2 rfl
    go_wp2_with fail
    generalize ((v3.alloc (.cells #[.int .u16 sy, .string ss, .bool sv] 35)).alloc (.cells #[.int .u16 y, .string s, .bool v] 35)) = Z at *
    generalize v3.heap.size + 1 = p4 at *
    go_loop [27] (fun t => ∃ j : Nat, j ≤ n ∧ t = .int .i64 j ∧ ∀ i, i < j → I i ≠ y) (fun t => n - (intOf t).toNat)
    case atStart => exact ⟨0, Nat.zero_le _, rfl, fun j hj => absurd hj (Nat.not_lt_zero _)⟩
    case round =>
      obtain ⟨j, hj, rfl, hall⟩ := hrel
      have HA : Hid (∀ i, i < j → I i ≠ y) := hall
      clear hall
      by_cases hlt : j < n
      · obtain ⟨bb, oo, rfl, hb1, e1⟩ := (HR.out.1.kept K3.out.2.1) (by omega)
        have d1 : Z.cell? ⟨bb, oo + j, none⟩ = some (.int .u16 (I j)) := e1 j hlt
        clear e1
        have HA2 : Hid (I j ≠ y → ∀ i, i < j + 1 → I i ≠ y) := fun h i hi => by
          by_cases e : i = j
          · rw [e]; exact h
          · exact HA.out i (by omega)
        generalize I j = q at *
        have hj1 : (j : Int) < n := by omega
        by_cases e : q = y
        · have t1 : (q == y) = true := by rw [beq_iff_eq]; exact e
          go_wp2_with fail
          go_ret
          exact ⟨by simp, K3.out.2.1⟩
        · have t1 : (q == y) = false := by rw [beq_eq_false_iff_ne]; exact e
          go_wp2_with fail
          go_round
          case rel => exact ⟨j + 1, by omega, by go_num, HA2.out e⟩
          case measure => simp [intOf]; omega
      · obtain ⟨i, hi, he⟩ := HX.out
        exact absurd he (HA.out i (by omega))
  · have HX : Hid (∃ i, i < n ∧ I i = id) := by
      obtain ⟨hm1, hm2⟩ := look_some hl1
      obtain ⟨i, hi, e⟩ := mem_seg hm2
      exact ⟨i, hi, by rw [← hm1, e]⟩
    have hy : m.1 = id := (look_some hl1).1
    obtain ⟨y, s, v⟩ := m
    simp only at hy
    subst hy
    have M1 : Hid (∀ W : World, OwnM W w.heap.size b1 (n) (n) (seg (fun i => (I i, S i, V i)) 0 n) → Calls Try.prog 8 #[.agg #[.int .u64 x, .slice (some ⟨b1, 0, none⟩) (n) (n)], .int .u16 y] W fun e w' => e = .returned (.tuple #[.agg #[.int .u16 y, .string s, .bool v], .bool true]) ∧ Below W.heap.size W w') := fun W ho => by
      have h := member_calls x y b1 (n) _ (seg (fun i => (I i, S i, V i)) 0 n) W (by omega) ho
      rw [hl1] at h
      exact h
    have M2 : Hid (∀ W : World, OwnM W B1 b2 (k) (k) (seg (fun i => (I i, S i, V i)) 0 k) → Calls Try.prog 8 #[.agg #[.int .u64 x, .slice (some ⟨b2, 0, none⟩) (k) (k)], .int .u16 y] W fun e w' => e = .returned (.tuple #[.agg #[.int .u16 0, .string { data := #[] }, .bool false], .bool false]) ∧ Below W.heap.size W w') := fun W ho => by
      have h := member_calls x y b2 (k) _ (seg (fun i => (I i, S i, V i)) 0 k) W (by omega) ho
      rw [hl2] at h
      exact h
    have M3 : Hid (∀ W : World, OwnM W B2 b3 (n - k) (n - k) (seg (fun i => (I i, S i, V i)) k n) → Calls Try.prog 8 #[.agg #[.int .u64 x, .slice (some ⟨b3, 0, none⟩) (n - k) (n - k)], .int .u16 y] W fun e w' => e = .returned (.tuple #[.agg #[.int .u16 y, .string s, .bool v], .bool true]) ∧ Below W.heap.size W w') := fun W ho => by
      have h := member_calls x y b3 (n - k) _ (seg (fun i => (I i, S i, V i)) k n) W (by omega) ho
      rw [hl3] at h
      exact h
    clear hl1 hl2 hl3
    refine (M1.out W3 H3.out.1).mono ?_
    rintro e v1 ⟨rfl, hb⟩
    have K1 : Hid (OwnM (v1.alloc (.cells #[.int .u16 y, .string s, .bool v] 35)) B1 b2 k k (seg (fun i => (I i, S i, V i)) 0 k) ∧ OwnM (v1.alloc (.cells #[.int .u16 y, .string s, .bool v] 35)) B2 b3 (n - k) (n - k) (seg (fun i => (I i, S i, V i)) k n) ∧ (v1.alloc (.cells #[.int .u16 y, .string s, .bool v] 35)).heap[g2]? = some (.cells #[.int .u64 x, .slice (some ⟨b2, 0, none⟩) (k) (k)] 31 (0, 0)) ∧ (v1.alloc (.cells #[.int .u16 y, .string s, .bool v] 35)).heap[g3]? = some (.cells #[.int .u64 x, .slice (some ⟨b3, 0, none⟩) (n - k) (n - k)] 31 (0, 0)) ∧ (v1.alloc (.cells #[.int .u16 y, .string s, .bool v] 35)).heap[v1.heap.size]? = some (.cells #[.int .u16 y, .string s, .bool v] 35 (0, 0)) ∧ Below w.heap.size w (v1.alloc (.cells #[.int .u16 y, .string s, .bool v] 35)) ∧ g2 < (v1.alloc (.cells #[.int .u16 y, .string s, .bool v] 35)).heap.size ∧ g3 < (v1.alloc (.cells #[.int .u16 y, .string s, .bool v] 35)).heap.size ∧ v1.heap.size < (v1.alloc (.cells #[.int .u16 y, .string s, .bool v] 35)).heap.size) := by
      obtain ⟨_, _, o2, e2, o3, e3, bl, _, s2, s3⟩ := H3.out
      have hs := hb.size
      have hs2 := bl.size
      exact ⟨World.ownsRow.alloc (o2.below hb o2.lt.2) _, World.ownsRow.alloc (o3.below hb o3.lt.2) _, (Below.heap_alloc _ _ _ (by omega)).trans ((hb.block _ s2).trans e2), (Below.heap_alloc _ _ _ (by omega)).trans ((hb.block _ s3).trans e3), heap_alloc_new _ _,
        (bl.trans (hb.mono hs2)).alloc (by omega) _, by simp; omega, by simp; omega, by simp⟩
    have q0 : (v1.alloc (.cells #[.int .u16 y, .string s, .bool v] 35)).cell? ⟨g2, 0, none⟩ = some (.int .u64 x) := by simp [World.cell?, K1.out.2.2.1]
    have q1 : (v1.alloc (.cells #[.int .u16 y, .string s, .bool v] 35)).cell? ⟨g2, 1, none⟩ = some (.slice (some ⟨b2, 0, none⟩) k k) := by simp [World.cell?, K1.out.2.2.1]
    clear hb H3
    go_wp2_with fail
    generalize (v1.alloc (.cells #[.int .u16 y, .string s, .bool v] 35)) = V1 at *
    generalize v1.heap.size = p1 at *
    clear q0 q1
    refine (M2.out V1 K1.out.1).mono ?_
    rintro e v2 ⟨rfl, hb⟩
    have K2 : Hid (OwnM (v2.alloc (.cells #[.int .u16 0, .string { data := #[] }, .bool false] 35)) B2 b3 (n - k) (n - k) (seg (fun i => (I i, S i, V i)) k n) ∧ (v2.alloc (.cells #[.int .u16 0, .string { data := #[] }, .bool false] 35)).heap[g3]? = some (.cells #[.int .u64 x, .slice (some ⟨b3, 0, none⟩) (n - k) (n - k)] 31 (0, 0)) ∧ (v2.alloc (.cells #[.int .u16 0, .string { data := #[] }, .bool false] 35)).heap[p1]? = some (.cells #[.int .u16 y, .string s, .bool v] 35 (0, 0)) ∧ (v2.alloc (.cells #[.int .u16 0, .string { data := #[] }, .bool false] 35)).heap[v2.heap.size]? = some (.cells #[.int .u16 0, .string { data := #[] }, .bool false] 35 (0, 0)) ∧ Below w.heap.size w (v2.alloc (.cells #[.int .u16 0, .string { data := #[] }, .bool false] 35)) ∧ g3 < (v2.alloc (.cells #[.int .u16 0, .string { data := #[] }, .bool false] 35)).heap.size ∧ p1 < (v2.alloc (.cells #[.int .u16 0, .string { data := #[] }, .bool false] 35)).heap.size ∧ v2.heap.size < (v2.alloc (.cells #[.int .u16 0, .string { data := #[] }, .bool false] 35)).heap.size) := by
      obtain ⟨_, o3, _, e3, ep, bl, _, s3, sp⟩ := K1.out
      have hs := hb.size
      have hs2 := bl.size
      exact ⟨World.ownsRow.alloc (o3.below hb o3.lt.2) _, (Below.heap_alloc _ _ _ (by omega)).trans ((hb.block _ s3).trans e3), (Below.heap_alloc _ _ _ (by omega)).trans ((hb.block _ sp).trans ep), heap_alloc_new _ _,
        (bl.trans (hb.mono hs2)).alloc (by omega) _, by simp; omega, by simp; omega, by simp⟩
    have q0 : (v2.alloc (.cells #[.int .u16 0, .string { data := #[] }, .bool false] 35)).cell? ⟨g3, 0, none⟩ = some (.int .u64 x) := by simp [World.cell?, K2.out.2.1]
    have q1 : (v2.alloc (.cells #[.int .u16 0, .string { data := #[] }, .bool false] 35)).cell? ⟨g3, 1, none⟩ = some (.slice (some ⟨b3, 0, none⟩) (n - k) (n - k)) := by simp [World.cell?, K2.out.2.1]
    clear hb K1
    go_wp2_with fail
    generalize (v2.alloc (.cells #[.int .u16 0, .string { data := #[] }, .bool false] 35)) = V2 at *
    generalize v2.heap.size = p2 at *
    clear q0 q1
    refine (M3.out V2 K2.out.1).mono ?_
    rintro e v3 ⟨rfl, hb⟩
    have K3 : Hid (((v3.alloc (.cells #[.int .u16 y, .string s, .bool v] 35)).alloc (.cells #[.int .u16 y, .string s, .bool v] 35)).heap[p1]? = some (.cells #[.int .u16 y, .string s, .bool v] 35 (0, 0)) ∧ Below w.heap.size w ((v3.alloc (.cells #[.int .u16 y, .string s, .bool v] 35)).alloc (.cells #[.int .u16 y, .string s, .bool v] 35)) ∧ ((v3.alloc (.cells #[.int .u16 y, .string s, .bool v] 35)).alloc (.cells #[.int .u16 y, .string s, .bool v] 35)).heap[v3.heap.size + 1]? = some (.cells #[.int .u16 y, .string s, .bool v] 35 (0, 0))) := by
      obtain ⟨_, _, ep, _, bl, _, sp, _⟩ := K2.out
      have hs := hb.size
      have hs2 := bl.size
      refine ⟨(Below.heap_alloc _ _ _ (by simp; omega)).trans ((Below.heap_alloc _ _ _ (by omega)).trans ((hb.block _ sp).trans ep)), ((bl.trans (hb.mono hs2)).alloc (by omega) _).alloc (by simp; omega) _, ?_⟩
      have := heap_alloc_new (v3.alloc (.cells #[.int .u16 y, .string s, .bool v] 35)) (.cells #[.int .u16 y, .string s, .bool v] 35)
      simpa using this
    have q5 : v3.heap[p2]? = some (.cells #[.int .u16 0, .string { data := #[] }, .bool false] 35 (0, 0)) ∧ p2 < v3.heap.size := by
      obtain ⟨_, _, _, e2, bl, _, _, s2⟩ := K2.out
      exact ⟨(hb.block _ s2).trans e2, by have := hb.size; omega⟩
    have y0 : v3.cell? ⟨p2, 0, none⟩ = some (.int .u16 0) := by simp [World.cell?, q5.1]
    have y1 : v3.cell? ⟨p2, 1, none⟩ = some (.string { data := #[] }) := by simp [World.cell?, q5.1]
    have y2 : v3.cell? ⟨p2, 2, none⟩ = some (.bool false) := by simp [World.cell?, q5.1]
    have y3 : p2 < v3.heap.size := q5.2
    clear q5 hb K2
    have z0 : ((v3.alloc (.cells #[.int .u16 y, .string s, .bool v] 35)).alloc (.cells #[.int .u16 y, .string s, .bool v] 35)).cell? ⟨p1, 0, none⟩ = some (.int .u16 y) := cell_in K3.out.1 rfl
    have z1 : ((v3.alloc (.cells #[.int .u16 y, .string s, .bool v] 35)).alloc (.cells #[.int .u16 y, .string s, .bool v] 35)).cell? ⟨p1, 1, none⟩ = some (.string s) := cell_in K3.out.1 rfl
    have z2 : ((v3.alloc (.cells #[.int .u16 y, .string s, .bool v] 35)).alloc (.cells #[.int .u16 y, .string s, .bool v] 35)).cell? ⟨p1, 2, none⟩ = some (.bool v) := cell_in K3.out.1 rfl
    have z3 : ((v3.alloc (.cells #[.int .u16 y, .string s, .bool v] 35)).alloc (.cells #[.int .u16 y, .string s, .bool v] 35)).cell? ⟨v3.heap.size + 1, 0, none⟩ = some (.int .u16 y) := cell_in K3.out.2.2 rfl
    have z4 : ((v3.alloc (.cells #[.int .u16 y, .string s, .bool v] 35)).alloc (.cells #[.int .u16 y, .string s, .bool v] 35)).cell? ⟨v3.heap.size + 1, 1, none⟩ = some (.string s) := cell_in K3.out.2.2 rfl
    have z5 : ((v3.alloc (.cells #[.int .u16 y, .string s, .bool v] 35)).alloc (.cells #[.int .u16 y, .string s, .bool v] 35)).cell? ⟨v3.heap.size + 1, 2, none⟩ = some (.bool v) := cell_in K3.out.2.2 rfl
    go_wp2_with fail
    generalize ((v3.alloc (.cells #[.int .u16 y, .string s, .bool v] 35)).alloc (.cells #[.int .u16 y, .string s, .bool v] 35)) = Z at *
    generalize v3.heap.size + 1 = p4 at *
    go_loop [27] (fun t => ∃ j : Nat, j ≤ n ∧ t = .int .i64 j ∧ ∀ i, i < j → I i ≠ y) (fun t => n - (intOf t).toNat)
    case atStart => exact ⟨0, Nat.zero_le _, rfl, fun j hj => absurd hj (Nat.not_lt_zero _)⟩
    case round =>
      obtain ⟨j, hj, rfl, hall⟩ := hrel
      have HA : Hid (∀ i, i < j → I i ≠ y) := hall
      clear hall
      by_cases hlt : j < n
      · obtain ⟨bb, oo, rfl, hb1, e1⟩ := (HR.out.1.kept K3.out.2.1) (by omega)
        have d1 : Z.cell? ⟨bb, oo + j, none⟩ = some (.int .u16 (I j)) := e1 j hlt
        clear e1
        have HA2 : Hid (I j ≠ y → ∀ i, i < j + 1 → I i ≠ y) := fun h i hi => by
          by_cases e : i = j
          · rw [e]; exact h
          · exact HA.out i (by omega)
        generalize I j = q at *
        have hj1 : (j : Int) < n := by omega
        by_cases e : q = y
        · have t1 : (q == y) = true := by rw [beq_iff_eq]; exact e
          go_wp2_with fail
          go_ret
          exact ⟨by simp, K3.out.2.1⟩
        · have t1 : (q == y) = false := by rw [beq_eq_false_iff_ne]; exact e
          go_wp2_with fail
          go_round
          case rel => exact ⟨j + 1, by omega, by go_num, HA2.out e⟩
          case measure => simp [intOf]; omega
      · obtain ⟨i, hi, he⟩ := HX.out
        exact absurd he (HA.out i (by omega))
  · have HX : Hid (∀ i, i < n → I i ≠ id) := fun i hi => look_none hl1 (I i, S i, V i) (seg_mem (M := fun i => (I i, S i, V i)) hi)
    have M1 : Hid (∀ W : World, OwnM W w.heap.size b1 (n) (n) (seg (fun i => (I i, S i, V i)) 0 n) → Calls Try.prog 8 #[.agg #[.int .u64 x, .slice (some ⟨b1, 0, none⟩) (n) (n)], .int .u16 id] W fun e w' => e = .returned (.tuple #[.agg #[.int .u16 0, .string { data := #[] }, .bool false], .bool false]) ∧ Below W.heap.size W w') := fun W ho => by
      have h := member_calls x id b1 (n) _ (seg (fun i => (I i, S i, V i)) 0 n) W (by omega) ho
      rw [hl1] at h
      exact h
    have M2 : Hid (∀ W : World, OwnM W B1 b2 (k) (k) (seg (fun i => (I i, S i, V i)) 0 k) → Calls Try.prog 8 #[.agg #[.int .u64 x, .slice (some ⟨b2, 0, none⟩) (k) (k)], .int .u16 id] W fun e w' => e = .returned (.tuple #[.agg #[.int .u16 0, .string { data := #[] }, .bool false], .bool false]) ∧ Below W.heap.size W w') := fun W ho => by
      have h := member_calls x id b2 (k) _ (seg (fun i => (I i, S i, V i)) 0 k) W (by omega) ho
      rw [hl2] at h
      exact h
    have M3 : Hid (∀ W : World, OwnM W B2 b3 (n - k) (n - k) (seg (fun i => (I i, S i, V i)) k n) → Calls Try.prog 8 #[.agg #[.int .u64 x, .slice (some ⟨b3, 0, none⟩) (n - k) (n - k)], .int .u16 id] W fun e w' => e = .returned (.tuple #[.agg #[.int .u16 0, .string { data := #[] }, .bool false], .bool false]) ∧ Below W.heap.size W w') := fun W ho => by
      have h := member_calls x id b3 (n - k) _ (seg (fun i => (I i, S i, V i)) k n) W (by omega) ho
      rw [hl3] at h
      exact h
    clear hl1 hl2 hl3
    refine (M1.out W3 H3.out.1).mono ?_
    rintro e v1 ⟨rfl, hb⟩
    have K1 : Hid (OwnM (v1.alloc (.cells #[.int .u16 0, .string { data := #[] }, .bool false] 35)) B1 b2 k k (seg (fun i => (I i, S i, V i)) 0 k) ∧ OwnM (v1.alloc (.cells #[.int .u16 0, .string { data := #[] }, .bool false] 35)) B2 b3 (n - k) (n - k) (seg (fun i => (I i, S i, V i)) k n) ∧ (v1.alloc (.cells #[.int .u16 0, .string { data := #[] }, .bool false] 35)).heap[g2]? = some (.cells #[.int .u64 x, .slice (some ⟨b2, 0, none⟩) (k) (k)] 31 (0, 0)) ∧ (v1.alloc (.cells #[.int .u16 0, .string { data := #[] }, .bool false] 35)).heap[g3]? = some (.cells #[.int .u64 x, .slice (some ⟨b3, 0, none⟩) (n - k) (n - k)] 31 (0, 0)) ∧ (v1.alloc (.cells #[.int .u16 0, .string { data := #[] }, .bool false] 35)).heap[v1.heap.size]? = some (.cells #[.int .u16 0, .string { data := #[] }, .bool false] 35 (0, 0)) ∧ Below w.heap.size w (v1.alloc (.cells #[.int .u16 0, .string { data := #[] }, .bool false] 35)) ∧ g2 < (v1.alloc (.cells #[.int .u16 0, .string { data := #[] }, .bool false] 35)).heap.size ∧ g3 < (v1.alloc (.cells #[.int .u16 0, .string { data := #[] }, .bool false] 35)).heap.size ∧ v1.heap.size < (v1.alloc (.cells #[.int .u16 0, .string { data := #[] }, .bool false] 35)).heap.size) := by
      obtain ⟨_, _, o2, e2, o3, e3, bl, _, s2, s3⟩ := H3.out
      have hs := hb.size
      have hs2 := bl.size
      exact ⟨World.ownsRow.alloc (o2.below hb o2.lt.2) _, World.ownsRow.alloc (o3.below hb o3.lt.2) _, (Below.heap_alloc _ _ _ (by omega)).trans ((hb.block _ s2).trans e2), (Below.heap_alloc _ _ _ (by omega)).trans ((hb.block _ s3).trans e3), heap_alloc_new _ _,
        (bl.trans (hb.mono hs2)).alloc (by omega) _, by simp; omega, by simp; omega, by simp⟩
    have q0 : (v1.alloc (.cells #[.int .u16 0, .string { data := #[] }, .bool false] 35)).cell? ⟨g2, 0, none⟩ = some (.int .u64 x) := by simp [World.cell?, K1.out.2.2.1]
    have q1 : (v1.alloc (.cells #[.int .u16 0, .string { data := #[] }, .bool false] 35)).cell? ⟨g2, 1, none⟩ = some (.slice (some ⟨b2, 0, none⟩) k k) := by simp [World.cell?, K1.out.2.2.1]
    clear hb H3
    go_wp2_with fail
    generalize (v1.alloc (.cells #[.int .u16 0, .string { data := #[] }, .bool false] 35)) = V1 at *
    generalize v1.heap.size = p1 at *
    clear q0 q1
    refine (M2.out V1 K1.out.1).mono ?_
    rintro e v2 ⟨rfl, hb⟩
    have K2 : Hid (OwnM (v2.alloc (.cells #[.int .u16 0, .string { data := #[] }, .bool false] 35)) B2 b3 (n - k) (n - k) (seg (fun i => (I i, S i, V i)) k n) ∧ (v2.alloc (.cells #[.int .u16 0, .string { data := #[] }, .bool false] 35)).heap[g3]? = some (.cells #[.int .u64 x, .slice (some ⟨b3, 0, none⟩) (n - k) (n - k)] 31 (0, 0)) ∧ (v2.alloc (.cells #[.int .u16 0, .string { data := #[] }, .bool false] 35)).heap[p1]? = some (.cells #[.int .u16 0, .string { data := #[] }, .bool false] 35 (0, 0)) ∧ (v2.alloc (.cells #[.int .u16 0, .string { data := #[] }, .bool false] 35)).heap[v2.heap.size]? = some (.cells #[.int .u16 0, .string { data := #[] }, .bool false] 35 (0, 0)) ∧ Below w.heap.size w (v2.alloc (.cells #[.int .u16 0, .string { data := #[] }, .bool false] 35)) ∧ g3 < (v2.alloc (.cells #[.int .u16 0, .string { data := #[] }, .bool false] 35)).heap.size ∧ p1 < (v2.alloc (.cells #[.int .u16 0, .string { data := #[] }, .bool false] 35)).heap.size ∧ v2.heap.size < (v2.alloc (.cells #[.int .u16 0, .string { data := #[] }, .bool false] 35)).heap.size) := by
      obtain ⟨_, o3, _, e3, ep, bl, _, s3, sp⟩ := K1.out
      have hs := hb.size
      have hs2 := bl.size
      exact ⟨World.ownsRow.alloc (o3.below hb o3.lt.2) _, (Below.heap_alloc _ _ _ (by omega)).trans ((hb.block _ s3).trans e3), (Below.heap_alloc _ _ _ (by omega)).trans ((hb.block _ sp).trans ep), heap_alloc_new _ _,
        (bl.trans (hb.mono hs2)).alloc (by omega) _, by simp; omega, by simp; omega, by simp⟩
    have q0 : (v2.alloc (.cells #[.int .u16 0, .string { data := #[] }, .bool false] 35)).cell? ⟨g3, 0, none⟩ = some (.int .u64 x) := by simp [World.cell?, K2.out.2.1]
    have q1 : (v2.alloc (.cells #[.int .u16 0, .string { data := #[] }, .bool false] 35)).cell? ⟨g3, 1, none⟩ = some (.slice (some ⟨b3, 0, none⟩) (n - k) (n - k)) := by simp [World.cell?, K2.out.2.1]
    clear hb K1
    go_wp2_with fail
    generalize (v2.alloc (.cells #[.int .u16 0, .string { data := #[] }, .bool false] 35)) = V2 at *
    generalize v2.heap.size = p2 at *
    clear q0 q1
    refine (M3.out V2 K2.out.1).mono ?_
    rintro e v3 ⟨rfl, hb⟩
    have K3 : Hid (((v3.alloc (.cells #[.int .u16 0, .string { data := #[] }, .bool false] 35)).alloc (.cells #[.int .u16 0, .string { data := #[] }, .bool false] 35)).heap[p1]? = some (.cells #[.int .u16 0, .string { data := #[] }, .bool false] 35 (0, 0)) ∧ Below w.heap.size w ((v3.alloc (.cells #[.int .u16 0, .string { data := #[] }, .bool false] 35)).alloc (.cells #[.int .u16 0, .string { data := #[] }, .bool false] 35)) ∧ ((v3.alloc (.cells #[.int .u16 0, .string { data := #[] }, .bool false] 35)).alloc (.cells #[.int .u16 0, .string { data := #[] }, .bool false] 35)).heap[v3.heap.size + 1]? = some (.cells #[.int .u16 0, .string { data := #[] }, .bool false] 35 (0, 0))) := by
      obtain ⟨_, _, ep, _, bl, _, sp, _⟩ := K2.out
      have hs := hb.size
      have hs2 := bl.size
      refine ⟨(Below.heap_alloc _ _ _ (by simp; omega)).trans ((Below.heap_alloc _ _ _ (by omega)).trans ((hb.block _ sp).trans ep)), ((bl.trans (hb.mono hs2)).alloc (by omega) _).alloc (by simp; omega) _, ?_⟩
      have := heap_alloc_new (v3.alloc (.cells #[.int .u16 0, .string { data := #[] }, .bool false] 35)) (.cells #[.int .u16 0, .string { data := #[] }, .bool false] 35)
      simpa using this
    have q5 : v3.heap[p2]? = some (.cells #[.int .u16 0, .string { data := #[] }, .bool false] 35 (0, 0)) ∧ p2 < v3.heap.size := by
      obtain ⟨_, _, _, e2, bl, _, _, s2⟩ := K2.out
      exact ⟨(hb.block _ s2).trans e2, by have := hb.size; omega⟩
    have y0 : v3.cell? ⟨p2, 0, none⟩ = some (.int .u16 0) := by simp [World.cell?, q5.1]
    have y1 : v3.cell? ⟨p2, 1, none⟩ = some (.string { data := #[] }) := by simp [World.cell?, q5.1]
    have y2 : v3.cell? ⟨p2, 2, none⟩ = some (.bool false) := by simp [World.cell?, q5.1]
    have y3 : p2 < v3.heap.size := q5.2
    clear q5 hb K2
    have z0 : ((v3.alloc (.cells #[.int .u16 0, .string { data := #[] }, .bool false] 35)).alloc (.cells #[.int .u16 0, .string { data := #[] }, .bool false] 35)).cell? ⟨p1, 0, none⟩ = some (.int .u16 0) := cell_in K3.out.1 rfl
    have z1 : ((v3.alloc (.cells #[.int .u16 0, .string { data := #[] }, .bool false] 35)).alloc (.cells #[.int .u16 0, .string { data := #[] }, .bool false] 35)).cell? ⟨p1, 1, none⟩ = some (.string { data := #[] }) := cell_in K3.out.1 rfl
    have z2 : ((v3.alloc (.cells #[.int .u16 0, .string { data := #[] }, .bool false] 35)).alloc (.cells #[.int .u16 0, .string { data := #[] }, .bool false] 35)).cell? ⟨p1, 2, none⟩ = some (.bool false) := cell_in K3.out.1 rfl
    have z3 : ((v3.alloc (.cells #[.int .u16 0, .string { data := #[] }, .bool false] 35)).alloc (.cells #[.int .u16 0, .string { data := #[] }, .bool false] 35)).cell? ⟨v3.heap.size + 1, 0, none⟩ = some (.int .u16 0) := cell_in K3.out.2.2 rfl
    have z4 : ((v3.alloc (.cells #[.int .u16 0, .string { data := #[] }, .bool false] 35)).alloc (.cells #[.int .u16 0, .string { data := #[] }, .bool false] 35)).cell? ⟨v3.heap.size + 1, 1, none⟩ = some (.string { data := #[] }) := cell_in K3.out.2.2 rfl
    have z5 : ((v3.alloc (.cells #[.int .u16 0, .string { data := #[] }, .bool false] 35)).alloc (.cells #[.int .u16 0, .string { data := #[] }, .bool false] 35)).cell? ⟨v3.heap.size + 1, 2, none⟩ = some (.bool false) := cell_in K3.out.2.2 rfl
    go_wp2_with fail
    generalize ((v3.alloc (.cells #[.int .u16 0, .string { data := #[] }, .bool false] 35)).alloc (.cells #[.int .u16 0, .string { data := #[] }, .bool false] 35)) = Z at *
    generalize v3.heap.size + 1 = p4 at *
    go_loop [26, 27] (fun u t => ∃ j : Nat, j ≤ n ∧ t = .int .i64 j ∧ u = .bool false) (fun _ t => n - (intOf t).toNat)
    case atStart => exact ⟨0, Nat.zero_le _, rfl, rfl⟩
    case round =>
      obtain ⟨j, hj, rfl, rfl⟩ := hrel
      by_cases hlt : j < n
      · obtain ⟨bb, oo, rfl, hb1, e1⟩ := (HR.out.1.kept K3.out.2.1) (by omega)
        have d1 : Z.cell? ⟨bb, oo + j, none⟩ = some (.int .u16 (I j)) := e1 j hlt
        clear e1
        have t1 : (I j == id) = false := by rw [beq_eq_false_iff_ne]; exact HX.out j hlt
        generalize I j = q at *
        have hj1 : (j : Int) < n := by omega
        go_wp2_with fail
        go_round
        case rel => exact ⟨j + 1, by omega, by go_num, rfl⟩
        case measure => simp [intOf]; omega
      · have hj1 : decide ((j : Int) < n) = false := by simp; omega
        have zl : p1 < Z.heap.size := by
          rcases Nat.lt_or_ge p1 Z.heap.size with h | h
          · exact h
          · have := K3.out.1; rw [Array.getElem?_eq_none h] at this; cases this
        go_wp2_with fail
        go_ret
        exact ⟨by simp, K3.out.2.1.alloc K3.out.2.1.size _⟩

end Go.Proofs.Qxb6630809a

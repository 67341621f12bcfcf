import Derived.Test.Qxb6630809aFits9
import Derived.Test.Qxb6630809aAgree
/- FnMemberFindsInsertedUnlessEarlier: the walk. -/
namespace Go.Proofs.Qxb6630809a
open Go.RowKit

theorem look_ins {id : Int} {ad : ByteArray} {vo : Bool} (a b : List Mb) : look id (a ++ [(id, ad, vo)] ++ b) = some ((look id a).getD (id, ad, vo)) := by
  rw [look_app, look_app]
  cases h : look id a with
  | some m => rfl
  | none => simp [look]

theorem look_other {M : Nat → Mb} {k n : Nat} {id q : Int} {ad : ByteArray} {vo : Bool} (hk : k ≤ n) (h : q ≠ id) : look q (seg M 0 k ++ [(id, ad, vo)] ++ seg M k n) = look q (seg M 0 n) := by
  rw [seg_cut M hk, look_app, look_app, look_app]
  have : look q [(id, ad, vo)] = none := by
    have e : ((id : Int) == q) = false := by rw [beq_eq_false_iff_ne]; exact fun e => h e.symm
    simp [look, e]
  rw [this]
  simp

set_option maxRecDepth 100000 in
set_option maxHeartbeats 3200000 in
theorem grow_mid (x id q : Int) (ad : ByteArray) (vo : Bool) (a1 a2 a3 : Option Addr) (n c1 c2 c3 k : Nat) (I : Nat → Int) (S : Nat → ByteArray) (V : Nat → Bool) (w : World) (hk : k ≤ n) (had : ad.size ≤ 1048576)
    (r1 : RowAt w w.heap.size a1 n (fun i => .int .u16 (I i))) (r2 : RowAt w w.heap.size a2 n (fun i => .string (S i))) (r3 : RowAt w w.heap.size a3 n (fun i => .bool (V i))) :
    Calls Try.prog 4 #[.int .u64 x, .slice a1 n c1, .slice a2 n c2, .slice a3 n c3, .int .i64 k, .int .u16 id, .string ad, .bool vo, .int .u16 q] w fun e w' => e = .returned (.bool true) ∧ Below w.heap.size w w' := by
  obtain ⟨i0, hi0, hz0, hz1, hz2⟩ := info_parts info35
  have HR : Hid (RowAt w w.heap.size a1 n (fun i => .int .u16 (I i)) ∧ RowAt w w.heap.size a2 n (fun i => .string (S i)) ∧ RowAt w w.heap.size a3 n (fun i => .bool (V i))) := ⟨r1, r2, r3⟩
  clear r1 r2 r3
  have hk1 : (k : Int) ≤ n := by omega
  have had1 : (ad.size : Int) ≤ 1048576 := by omega
  go_enter Try.func4, Try.ntmps4
  go_wp2_with fail
  refine (bytes9_calls x id k q ad vo a1 a2 a3 n c1 n c2 n c3 S w HR.out.2.1).mono ?_
  rintro e w ⟨⟨bb, rfl, hbb⟩, rfl⟩
  cases bb with
  | false =>
    go_wp2_with fail
    go_ret
    exact ⟨rfl, Below.refl _ _⟩
  | true =>
  have HSH : Hid (Short S n) := hbb rfl
  clear hbb
  go_wp2_with fail
  refine (fit_calls ad.size a1 a2 a3 n c1 n c2 n c3 S w HSH.out HR.out.2.1 (by omega) (by omega)).mono ?_
  rintro e w ⟨⟨bb, rfl, hbb⟩, rfl⟩
  cases bb with
  | false =>
    go_wp2_with fail
    go_ret
    exact ⟨rfl, Below.refl _ _⟩
  | true =>
  have hn : n ≤ 65536 := hbb rfl
  have hn1 : (n : Int) ≤ 65536 := by omega
  clear hbb HSH
  have hmk : ∀ w : World, (Instr.makeSlice 29 (.int .i64 0) (.int .i64 ((n : Int) + 1))).run Try.prog w = .ok (.slice (some ⟨w.heap.size, 0, none⟩) 0 (n + 1)) (w.alloc (.cells (madeCells #[.int .u16 0, .string { data := #[] }, .bool false] ((n + 1) * 3)) 35)) := fun w => by
    have hr := run_make (P := Try.prog) w 29 35 i0 _ Try.underlying29 hi0 hz0 .i64 .i64 0 ((n : Int) + 1) (by omega) (by omega) (by rw [hz2]; omega) (by omega)
    rw [hz1, show ((n : Int) + 1).toNat = n + 1 from by omega] at hr
    simpa [Value.cells] using hr
  go_wp2_with fail
  refine (config_calls x a1 a2 a3 n c1 c2 c3 0 n I S V w (Nat.zero_le _) (Nat.le_refl _) hn HR.out.1 HR.out.2.1 HR.out.2.2).mono ?_
  rintro e w1 ⟨⟨b1, rfl, ho⟩, hb⟩
  have H1 : Hid (OwnM (w1.alloc (.cells #[.int .u64 x, .slice (some ⟨b1, 0, none⟩) (n) (n)] 31)) w.heap.size b1 n n (seg (fun i => (I i, S i, V i)) 0 n) ∧ (w1.alloc (.cells #[.int .u64 x, .slice (some ⟨b1, 0, none⟩) (n) (n)] 31)).heap[w1.heap.size]? = some (.cells #[.int .u64 x, .slice (some ⟨b1, 0, none⟩) (n) (n)] 31 (0, 0)) ∧ Below w.heap.size w (w1.alloc (.cells #[.int .u64 x, .slice (some ⟨b1, 0, none⟩) (n) (n)] 31)) ∧ w1.heap.size < (w1.alloc (.cells #[.int .u64 x, .slice (some ⟨b1, 0, none⟩) (n) (n)] 31)).heap.size) :=
    ⟨World.ownsRow.alloc ho _, heap_alloc_new _ _, hb.alloc hb.size _, by simp⟩
  clear ho hb
  go_wp2_with fail
  generalize (w1.alloc (.cells #[.int .u64 x, .slice (some ⟨b1, 0, none⟩) (n) (n)] 31)) = W1 at *
  generalize w1.heap.size = g1 at *
  refine (config_calls x a1 a2 a3 n c1 c2 c3 0 k I S V W1 (Nat.zero_le _) hk hn ((HR.out.1.kept H1.out.2.2.1).mono H1.out.2.2.1.size) ((HR.out.2.1.kept H1.out.2.2.1).mono H1.out.2.2.1.size) ((HR.out.2.2.kept H1.out.2.2.1).mono H1.out.2.2.1.size)).mono ?_
  rintro e w2 ⟨⟨b2, rfl, ho⟩, hb⟩
  have H2 : Hid (OwnM (w2.alloc (.cells #[.int .u64 x, .slice (some ⟨b2, 0, none⟩) (k) (k)] 31)) w.heap.size b1 n n (seg (fun i => (I i, S i, V i)) 0 n) ∧ (w2.alloc (.cells #[.int .u64 x, .slice (some ⟨b2, 0, none⟩) (k) (k)] 31)).heap[g1]? = some (.cells #[.int .u64 x, .slice (some ⟨b1, 0, none⟩) (n) (n)] 31 (0, 0)) ∧ OwnM (w2.alloc (.cells #[.int .u64 x, .slice (some ⟨b2, 0, none⟩) (k) (k)] 31)) W1.heap.size b2 k k (seg (fun i => (I i, S i, V i)) 0 k) ∧ (w2.alloc (.cells #[.int .u64 x, .slice (some ⟨b2, 0, none⟩) (k) (k)] 31)).heap[w2.heap.size]? = some (.cells #[.int .u64 x, .slice (some ⟨b2, 0, none⟩) (k) (k)] 31 (0, 0)) ∧ Below w.heap.size w (w2.alloc (.cells #[.int .u64 x, .slice (some ⟨b2, 0, none⟩) (k) (k)] 31)) ∧ g1 < (w2.alloc (.cells #[.int .u64 x, .slice (some ⟨b2, 0, none⟩) (k) (k)] 31)).heap.size ∧ w2.heap.size < (w2.alloc (.cells #[.int .u64 x, .slice (some ⟨b2, 0, none⟩) (k) (k)] 31)).heap.size) :=
    ⟨World.ownsRow.alloc (H1.out.1.below hb H1.out.1.lt.2) _, (Below.heap_alloc _ _ _ (by have := hb.size; have := H1.out.2.2.2; omega)).trans ((hb.block _ H1.out.2.2.2).trans H1.out.2.1), World.ownsRow.alloc ho _, heap_alloc_new _ _,
      (H1.out.2.2.1.trans (hb.mono H1.out.2.2.1.size)).alloc (by have := hb.size; have := H1.out.2.2.1.size; omega) _, by have := hb.size; have := H1.out.2.2.2; simp; omega, by simp⟩
  clear ho hb H1
  go_wp2_with fail
  have HW2 : Hid ((w2.alloc (.cells #[.int .u64 x, .slice (some ⟨b2, 0, none⟩) (k) (k)] 31)).heap.size = w2.heap.size + 1) := (show (w2.alloc (.cells #[.int .u64 x, .slice (some ⟨b2, 0, none⟩) (k) (k)] 31)).heap.size = w2.heap.size + 1 by simp)
  generalize (w2.alloc (.cells #[.int .u64 x, .slice (some ⟨b2, 0, none⟩) (k) (k)] 31)) = W2 at *
  generalize w2.heap.size = g2 at *
  generalize W1.heap.size = B1 at *
  have HS : Hid (OwnM (W2.alloc (.cells (madeCells #[.int .u16 0, .string { data := #[] }, .bool false] ((n + 1) * 3)) 35)) W2.heap.size W2.heap.size (n + 1) 0 [] ∧ Below W2.heap.size W2 (W2.alloc (.cells (madeCells #[.int .u16 0, .string { data := #[] }, .bool false] ((n + 1) * 3)) 35)) ∧ W2.heap.size + 1 ≤ (W2.alloc (.cells (madeCells #[.int .u16 0, .string { data := #[] }, .bool false] ((n + 1) * 3)) 35)).heap.size) := by
    refine ⟨?_, (Below.refl _ _).alloc (Nat.le_refl _) _, by simp⟩
    have := World.ownsRow_made (base := W2.heap.size) (size := 3) (e := 35) W2 (madeCells #[.int .u16 0, .string { data := #[] }, .bool false] ((n + 1) * 3)) (n + 1) (Nat.le_refl _) (by unfold maxLen; omega) (by rw [size_madeCells])
    simpa [OwnM, flatM] using this
  generalize (W2.alloc (.cells (madeCells #[.int .u16 0, .string { data := #[] }, .bool false] ((n + 1) * 3)) 35)) = W3 at HS ⊢
  go_loopw [23, 24] (fun pb t wx => ∃ j : Nat, 0 ≤ j ∧ j ≤ k ∧ t = .int .i64 j ∧ pb = .slice (some ⟨W2.heap.size, 0, none⟩) (j) (n + 1) ∧
      OwnM wx W2.heap.size W2.heap.size (n + 1) (j) (seg (fun i => (I i, S i, V i)) 0 j) ∧ Below W2.heap.size W2 wx ∧ W2.heap.size + 1 ≤ wx.heap.size) (fun _ t _ => k - (intOf t).toNat)
  case atStart => exact ⟨0, Nat.le_refl _, Nat.zero_le _, rfl, by rw [HW2.out], HS.out.1, HS.out.2.1, HS.out.2.2⟩
  case round =>
    clear HS
    obtain ⟨j, hj0, hj, rfl, rfl, hP, hbel, hsz⟩ := hrel
    by_cases hlt : j < k
    · have hbw : Below w.heap.size w wr := H2.out.2.2.2.2.1.trans (hbel.mono H2.out.2.2.2.2.1.size)
      have hma := memberAt_calls a1 a2 a3 n c1 c2 c3 j I S V wr (by omega) hn ((HR.out.1.kept hbw).mono hbw.size) ((HR.out.2.1.kept hbw).mono hbw.size) ((HR.out.2.2.kept hbw).mono hbw.size)
      unfold mbV at hma
      have HMA : Hid (Calls Try.prog 10 #[.slice a1 n c1, .slice a2 n c2, .slice a3 n c3, .int .i64 j] wr fun e w' => e = .returned (.agg #[.int .u16 (I j), .string (S j), .bool (V j)]) ∧ Below wr.heap.size wr w') := hma
      have HT : Hid (seg (fun i => (I i, S i, V i)) 0 (j + 1) = seg (fun i => (I i, S i, V i)) 0 j ++ [(I j, S j, V j)]) := seg_succ (fun i => (I i, S i, V i)) (Nat.zero_le j)
      have HB : Hid (OwnM wr W2.heap.size W2.heap.size (n + 1) (j) (seg (fun i => (I i, S i, V i)) 0 j) ∧ Below W2.heap.size W2 wr ∧ W2.heap.size + 1 ≤ wr.heap.size) := ⟨hP, hbel, hsz⟩
      clear hP hbel hsz hbw hma
      generalize I j = y at *
      generalize S j = s at *
      generalize V j = v at *
      have hj3 : (j : Int) < k := by omega
      have hroom : j + 1 ≤ n + 1 := by omega
      go_wp2_with fail
      refine HMA.out.mono ?_
      rintro e v1 ⟨rfl, hb1⟩
      have hP : OwnM v1 W2.heap.size W2.heap.size (n + 1) (j) (seg (fun i => (I i, S i, V i)) 0 j) := HB.out.1.below hb1 HB.out.1.lt.2
      have HB1 : Hid (Below W2.heap.size W2 v1 ∧ W2.heap.size + 1 ≤ v1.heap.size) := ⟨HB.out.2.1.trans (hb1.mono HB.out.2.1.size), by have := HB.out.2.2; have := hb1.size; omega⟩
      clear hb1 HB HMA
      go_wp2_with (first | (at_builtin; refine wpList_append_fits _ rfl (.tmp 98) (.tmp 104) 29 rfl W2.heap.size 35 i0 3 Try.underlying29 hi0 hz1 W2.heap.size (j) (n + 1) _ (by rfl) (by exact World.ownsRow.alloc hP _) ⟨v1.heap.size, 0, none⟩ 1 1 [.int .u16 y, .string s, .bool v] (by rfl) (by rfl) (three_new _ (y, s, v)) (three_ok (y, s, v)) (by omega) ?_; intro v2 hown hgrow))
      have R1 : OwnM v2 W2.heap.size W2.heap.size (n + 1) (j + 1) (seg (fun i => (I i, S i, V i)) 0 (j + 1)) := by rw [HT.out]; exact OwnM.snoc (m := (y, s, v)) hown
      have R3 := below_app HB1.out.1 HB1.out.2 hgrow (Nat.le_refl _)
      go_roundw
      case rel => exact ⟨j + 1, by omega, by omega, by go_num, rfl, R1, R3.1, R3.2⟩
      case measure => simp [intOf]; omega
    · have hjk : k = j := by omega
      subst hjk
      have hj3 : decide ((k : Int) < (k : Int)) = false := by simp
      have HB : Hid (Below W2.heap.size W2 wr ∧ W2.heap.size + 1 ≤ wr.heap.size) := ⟨hbel, hsz⟩
      clear hbel
      go_wp2_with (first | (at_builtin; refine wpList_append_fits _ rfl (.tmp 110) (.tmp 112) 29 rfl W2.heap.size 35 i0 3 Try.underlying29 hi0 hz1 W2.heap.size k (n + 1) _ (by rfl) (by exact World.ownsRow.alloc (World.ownsRow.alloc hP _) _) ⟨wr.heap.size + 1, 0, none⟩ 1 1 [.int .u16 id, .string ad, .bool vo] (by rfl) (by rfl) (by simpa using three_new (wr.alloc (.cells #[.int .u16 id, .string ad, .bool vo] 35)) (id, ad, vo)) (three_ok (id, ad, vo)) (by omega) ?_; intro v2 hown hgrow))
      have HI : Hid (OwnM v2 W2.heap.size W2.heap.size (n + 1) (k + 1) (seg (fun i => (I i, S i, V i)) 0 k ++ [(id, ad, vo)] ++ seg (fun i => (I i, S i, V i)) k k) ∧ Below W2.heap.size W2 v2 ∧ W2.heap.size + 1 ≤ v2.heap.size ∧ v2.heap[wr.heap.size]? = some (.cells #[.int .u16 id, .string ad, .bool vo] 35 (0, 0)) ∧ wr.heap.size < v2.heap.size) := by
        have hs2 : wr.heap.size + 2 ≤ v2.heap.size := by have := hgrow.size; simp at this; omega
        have hbb := below_app (w := wr.alloc (.cells #[.int .u16 id, .string ad, .bool vo] 35)) (m := 1) (HB.out.1.alloc (by omega) _) (by simp; omega) hgrow (Nat.le_refl _)
        refine ⟨?_, hbb.1, hbb.2, ?_, by omega⟩
        · rw [seg_start, List.append_nil]; exact OwnM.snoc (m := (id, ad, vo)) hown
        · rw [hgrow.block _ (by simp; omega) (by simp; omega), Below.heap_alloc _ _ _ (by simp)]
          exact heap_alloc_new _ _
      have HPn : Hid (W2.heap.size + 1 ≤ wr.heap.size) := hsz
      clear hown hgrow hP HB hsz hj3
      generalize wr.heap.size = Pn at *
      go_loopw [23, 26] (fun pb t wx => ∃ j : Nat, k ≤ j ∧ j ≤ n ∧ t = .int .i64 j ∧ pb = .slice (some ⟨W2.heap.size, 0, none⟩) (j + 1) (n + 1) ∧
          OwnM wx W2.heap.size W2.heap.size (n + 1) (j + 1) (seg (fun i => (I i, S i, V i)) 0 k ++ [(id, ad, vo)] ++ seg (fun i => (I i, S i, V i)) k j) ∧ Below W2.heap.size W2 wx ∧ W2.heap.size + 1 ≤ wx.heap.size ∧ wx.heap[Pn]? = some (.cells #[.int .u16 id, .string ad, .bool vo] 35 (0, 0)) ∧ Pn < wx.heap.size) (fun _ t _ => n - (intOf t).toNat)
      case atStart => exact ⟨k, Nat.le_refl _, hk, rfl, rfl, HI.out.1, HI.out.2.1, HI.out.2.2.1, HI.out.2.2.2.1, HI.out.2.2.2.2⟩
      case round =>
        clear HI
        obtain ⟨j, hj0, hj, rfl, rfl, hP, hbel, hsz, hI, hPl⟩ := hrel
        by_cases hlt : j < n
        · have hbw : Below w.heap.size w wr := H2.out.2.2.2.2.1.trans (hbel.mono H2.out.2.2.2.2.1.size)
          have hma := memberAt_calls a1 a2 a3 n c1 c2 c3 j I S V wr (by omega) hn ((HR.out.1.kept hbw).mono hbw.size) ((HR.out.2.1.kept hbw).mono hbw.size) ((HR.out.2.2.kept hbw).mono hbw.size)
          unfold mbV at hma
          have HMA : Hid (Calls Try.prog 10 #[.slice a1 n c1, .slice a2 n c2, .slice a3 n c3, .int .i64 j] wr fun e w' => e = .returned (.agg #[.int .u16 (I j), .string (S j), .bool (V j)]) ∧ Below wr.heap.size wr w') := hma
          have HT : Hid (seg (fun i => (I i, S i, V i)) 0 k ++ [(id, ad, vo)] ++ seg (fun i => (I i, S i, V i)) k (j + 1) = seg (fun i => (I i, S i, V i)) 0 k ++ [(id, ad, vo)] ++ seg (fun i => (I i, S i, V i)) k j ++ [(I j, S j, V j)]) := by show seg (fun i => (I i, S i, V i)) 0 k ++ [(id, ad, vo)] ++ seg (fun i => (I i, S i, V i)) k (j + 1) = _; rw [seg_succ (fun i => (I i, S i, V i)) hj0]; simp
          have HB : Hid (OwnM wr W2.heap.size W2.heap.size (n + 1) (j + 1) (seg (fun i => (I i, S i, V i)) 0 k ++ [(id, ad, vo)] ++ seg (fun i => (I i, S i, V i)) k j) ∧ Below W2.heap.size W2 wr ∧ W2.heap.size + 1 ≤ wr.heap.size) := ⟨hP, hbel, hsz⟩
          have HE : Hid (wr.heap[Pn]? = some (.cells #[.int .u16 id, .string ad, .bool vo] 35 (0, 0)) ∧ Pn < wr.heap.size) := ⟨hI, hPl⟩
          clear hP hbel hsz hbw hma hI hPl
          generalize I j = y at *
          generalize S j = s at *
          generalize V j = v at *
          have hj3 : (j : Int) < n := by omega
          have hroom : j + 1 + 1 ≤ n + 1 := by omega
          go_wp2_with fail
          refine HMA.out.mono ?_
          rintro e v1 ⟨rfl, hb1⟩
          have hP : OwnM v1 W2.heap.size W2.heap.size (n + 1) (j + 1) (seg (fun i => (I i, S i, V i)) 0 k ++ [(id, ad, vo)] ++ seg (fun i => (I i, S i, V i)) k j) := HB.out.1.below hb1 HB.out.1.lt.2
          have HB1 : Hid (Below W2.heap.size W2 v1 ∧ W2.heap.size + 1 ≤ v1.heap.size) := ⟨HB.out.2.1.trans (hb1.mono HB.out.2.1.size), by have := HB.out.2.2; have := hb1.size; omega⟩
          have HE1 : Hid (v1.heap[Pn]? = some (.cells #[.int .u16 id, .string ad, .bool vo] 35 (0, 0)) ∧ Pn < v1.heap.size) := ⟨(hb1.block _ HE.out.2).trans HE.out.1, by have := hb1.size; have := HE.out.2; omega⟩
          clear hb1 HB HMA HE
          go_wp2_with (first | (at_builtin; refine wpList_append_fits _ rfl (.tmp 120) (.tmp 126) 29 rfl W2.heap.size 35 i0 3 Try.underlying29 hi0 hz1 W2.heap.size (j + 1) (n + 1) _ (by rfl) (by exact World.ownsRow.alloc hP _) ⟨v1.heap.size, 0, none⟩ 1 1 [.int .u16 y, .string s, .bool v] (by rfl) (by rfl) (three_new _ (y, s, v)) (three_ok (y, s, v)) (by omega) ?_; intro v2 hown hgrow))
          have R1 : OwnM v2 W2.heap.size W2.heap.size (n + 1) (j + 1 + 1) (seg (fun i => (I i, S i, V i)) 0 k ++ [(id, ad, vo)] ++ seg (fun i => (I i, S i, V i)) k (j + 1)) := by rw [HT.out]; exact OwnM.snoc (m := (y, s, v)) hown
          have R3 := below_app HB1.out.1 HB1.out.2 hgrow (Nat.le_refl _)
          have R5 : v2.heap[Pn]? = some (.cells #[.int .u16 id, .string ad, .bool vo] 35 (0, 0)) := by
            rw [hgrow.block _ (by have := HE1.out.2; simp; omega) (by have := HPn.out; simp; omega), Below.heap_alloc _ _ _ HE1.out.2]
            exact HE1.out.1
          have R6 : Pn < v2.heap.size := by have := hgrow.size; have := HE1.out.2; simp at *; omega
          go_roundw
          case rel => exact ⟨j + 1, by omega, by omega, by go_num, rfl, R1, R3.1, R3.2, R5, R6⟩
          case measure => simp [intOf]; omega
        · have hjn : n = j := by omega
          subst hjn
          have hn3 : decide ((n : Int) < (n : Int)) = false := by simp
          have K0 : Hid (OwnM (wr.alloc (.cells #[.int .u64 x, .slice (some ⟨W2.heap.size, 0, none⟩) (n + 1) (n + 1)] 31)) W2.heap.size W2.heap.size (n + 1) (n + 1) (seg (fun i => (I i, S i, V i)) 0 k ++ [(id, ad, vo)] ++ seg (fun i => (I i, S i, V i)) k n) ∧ OwnM (wr.alloc (.cells #[.int .u64 x, .slice (some ⟨W2.heap.size, 0, none⟩) (n + 1) (n + 1)] 31)) B1 b2 k k (seg (fun i => (I i, S i, V i)) 0 k) ∧ OwnM (wr.alloc (.cells #[.int .u64 x, .slice (some ⟨W2.heap.size, 0, none⟩) (n + 1) (n + 1)] 31)) w.heap.size b1 n n (seg (fun i => (I i, S i, V i)) 0 n) ∧ (wr.alloc (.cells #[.int .u64 x, .slice (some ⟨W2.heap.size, 0, none⟩) (n + 1) (n + 1)] 31)).heap[g1]? = some (.cells #[.int .u64 x, .slice (some ⟨b1, 0, none⟩) (n) (n)] 31 (0, 0)) ∧ (wr.alloc (.cells #[.int .u64 x, .slice (some ⟨W2.heap.size, 0, none⟩) (n + 1) (n + 1)] 31)).heap[g2]? = some (.cells #[.int .u64 x, .slice (some ⟨b2, 0, none⟩) (k) (k)] 31 (0, 0)) ∧ (wr.alloc (.cells #[.int .u64 x, .slice (some ⟨W2.heap.size, 0, none⟩) (n + 1) (n + 1)] 31)).heap[wr.heap.size]? = some (.cells #[.int .u64 x, .slice (some ⟨W2.heap.size, 0, none⟩) (n + 1) (n + 1)] 31 (0, 0)) ∧ (wr.alloc (.cells #[.int .u64 x, .slice (some ⟨W2.heap.size, 0, none⟩) (n + 1) (n + 1)] 31)).heap[Pn]? = some (.cells #[.int .u16 id, .string ad, .bool vo] 35 (0, 0)) ∧ Below w.heap.size w (wr.alloc (.cells #[.int .u64 x, .slice (some ⟨W2.heap.size, 0, none⟩) (n + 1) (n + 1)] 31)) ∧ g1 < (wr.alloc (.cells #[.int .u64 x, .slice (some ⟨W2.heap.size, 0, none⟩) (n + 1) (n + 1)] 31)).heap.size ∧ g2 < (wr.alloc (.cells #[.int .u64 x, .slice (some ⟨W2.heap.size, 0, none⟩) (n + 1) (n + 1)] 31)).heap.size ∧ wr.heap.size < (wr.alloc (.cells #[.int .u64 x, .slice (some ⟨W2.heap.size, 0, none⟩) (n + 1) (n + 1)] 31)).heap.size ∧ Pn < (wr.alloc (.cells #[.int .u64 x, .slice (some ⟨W2.heap.size, 0, none⟩) (n + 1) (n + 1)] 31)).heap.size) := by
            obtain ⟨o1, e1, o2, e2, bl, s1, s2⟩ := H2.out
            have hs := hbel.size
            exact ⟨World.ownsRow.alloc hP _, World.ownsRow.alloc (o2.below hbel o2.lt.2) _, World.ownsRow.alloc (o1.below hbel o1.lt.2) _, (Below.heap_alloc _ _ _ (by omega)).trans ((hbel.block _ s1).trans e1), (Below.heap_alloc _ _ _ (by omega)).trans ((hbel.block _ s2).trans e2), heap_alloc_new _ _, (Below.heap_alloc _ _ _ hPl).trans hI,
              (bl.trans (hbel.mono bl.size)).alloc (by have := bl.size; omega) _, by simp; omega, by simp; omega, by simp, by simp; omega⟩
          clear hP hbel hI hPl hsz H2
          go_wp2_with fail
          generalize (wr.alloc (.cells #[.int .u64 x, .slice (some ⟨W2.heap.size, 0, none⟩) (n + 1) (n + 1)] 31)) = W4 at *
          generalize wr.heap.size = g3 at *
          have hins := look_ins (id := id) (ad := ad) (vo := vo) (seg (fun i => (I i, S i, V i)) 0 k) (seg (fun i => (I i, S i, V i)) k n)
          cases hp : look id (seg (fun i => (I i, S i, V i)) 0 k) with
          | some m =>
            have hy : m.1 = id := (look_some hp).1
            obtain ⟨y, s, v⟩ := m
            simp only at hy
            subst hy
            have hg : look y (seg (fun i => (I i, S i, V i)) 0 k ++ [(y, ad, vo)] ++ seg (fun i => (I i, S i, V i)) k n) = some (y, s, v) := by rw [hins, hp]; rfl
            clear hins
            have M1 : Hid (∀ W : World, OwnM W (W2.heap.size) (W2.heap.size) (n + 1) (n + 1) (seg (fun i => (I i, S i, V i)) 0 k ++ [(y, ad, vo)] ++ seg (fun i => (I i, S i, V i)) k n) → Calls Try.prog 8 #[.agg #[.int .u64 x, .slice (some ⟨W2.heap.size, 0, none⟩) (n + 1) (n + 1)], .int .u16 y] W fun e w' => e = .returned (.tuple #[.agg #[.int .u16 y, .string s, .bool v], .bool true]) ∧ Below W.heap.size W w') := fun W ho => by
              have h := member_calls x y (W2.heap.size) (n + 1) _ (seg (fun i => (I i, S i, V i)) 0 k ++ [(y, ad, vo)] ++ seg (fun i => (I i, S i, V i)) k n) W (by omega) ho
              rw [hg] at h
              exact h
            have M2 : Hid (∀ W : World, OwnM W (B1) (b2) (k) (k) (seg (fun i => (I i, S i, V i)) 0 k) → Calls Try.prog 8 #[.agg #[.int .u64 x, .slice (some ⟨b2, 0, none⟩) (k) (k)], .int .u16 y] W fun e w' => e = .returned (.tuple #[.agg #[.int .u16 y, .string s, .bool v], .bool true]) ∧ Below W.heap.size W w') := fun W ho => by
              have h := member_calls x y (b2) (k) _ (seg (fun i => (I i, S i, V i)) 0 k) W (by omega) ho
              rw [hp] at h
              exact h
            clear hg hp
            refine (M1.out W4 K0.out.1).mono ?_
            rintro e v1 ⟨rfl, hb⟩
            have K1 : Hid (OwnM (v1.alloc (.cells #[.int .u16 y, .string s, .bool v] 35)) W2.heap.size W2.heap.size (n + 1) (n + 1) (seg (fun i => (I i, S i, V i)) 0 k ++ [(y, ad, vo)] ++ seg (fun i => (I i, S i, V i)) k n) ∧ OwnM (v1.alloc (.cells #[.int .u16 y, .string s, .bool v] 35)) B1 b2 k k (seg (fun i => (I i, S i, V i)) 0 k) ∧ OwnM (v1.alloc (.cells #[.int .u16 y, .string s, .bool v] 35)) w.heap.size b1 n n (seg (fun i => (I i, S i, V i)) 0 n) ∧ (v1.alloc (.cells #[.int .u16 y, .string s, .bool v] 35)).heap[g1]? = some (.cells #[.int .u64 x, .slice (some ⟨b1, 0, none⟩) (n) (n)] 31 (0, 0)) ∧ (v1.alloc (.cells #[.int .u16 y, .string s, .bool v] 35)).heap[g2]? = some (.cells #[.int .u64 x, .slice (some ⟨b2, 0, none⟩) (k) (k)] 31 (0, 0)) ∧ (v1.alloc (.cells #[.int .u16 y, .string s, .bool v] 35)).heap[g3]? = some (.cells #[.int .u64 x, .slice (some ⟨W2.heap.size, 0, none⟩) (n + 1) (n + 1)] 31 (0, 0)) ∧ (v1.alloc (.cells #[.int .u16 y, .string s, .bool v] 35)).heap[Pn]? = some (.cells #[.int .u16 y, .string ad, .bool vo] 35 (0, 0)) ∧ Below w.heap.size w (v1.alloc (.cells #[.int .u16 y, .string s, .bool v] 35)) ∧ g1 < (v1.alloc (.cells #[.int .u16 y, .string s, .bool v] 35)).heap.size ∧ g2 < (v1.alloc (.cells #[.int .u16 y, .string s, .bool v] 35)).heap.size ∧ g3 < (v1.alloc (.cells #[.int .u16 y, .string s, .bool v] 35)).heap.size ∧ Pn < (v1.alloc (.cells #[.int .u16 y, .string s, .bool v] 35)).heap.size) := by
              obtain ⟨o0, o2, o1, e1, e2, e3, ep, bl, s1, s2, s3, sp⟩ := K0.out
              have hs := hb.size
              have hs2 := bl.size
              exact ⟨World.ownsRow.alloc (o0.below hb o0.lt.2) _, World.ownsRow.alloc (o2.below hb o2.lt.2) _, World.ownsRow.alloc (o1.below hb o1.lt.2) _, (Below.heap_alloc _ _ _ (by omega)).trans ((hb.block _ s1).trans e1), (Below.heap_alloc _ _ _ (by omega)).trans ((hb.block _ s2).trans e2), (Below.heap_alloc _ _ _ (by omega)).trans ((hb.block _ s3).trans e3), (Below.heap_alloc _ _ _ (by omega)).trans ((hb.block _ sp).trans ep),
                (bl.trans (hb.mono hs2)).alloc (by omega) _, by simp; omega, by simp; omega, by simp; omega, by simp; omega⟩
            have P1 : Hid ((v1.alloc (.cells #[.int .u16 y, .string s, .bool v] 35)).heap[v1.heap.size]? = some (.cells #[.int .u16 y, .string s, .bool v] 35 (0, 0)) ∧ v1.heap.size < (v1.alloc (.cells #[.int .u16 y, .string s, .bool v] 35)).heap.size) := ⟨heap_alloc_new _ _, by simp⟩
            have q0 : (v1.alloc (.cells #[.int .u16 y, .string s, .bool v] 35)).cell? ⟨g2, 0, none⟩ = some (.int .u64 x) := cell_in K1.out.2.2.2.2.1 rfl
            have q1 : (v1.alloc (.cells #[.int .u16 y, .string s, .bool v] 35)).cell? ⟨g2, 1, none⟩ = some (.slice (some ⟨b2, 0, none⟩) k k) := cell_in K1.out.2.2.2.2.1 rfl
            clear hb K0
            go_wp2_with fail
            generalize (v1.alloc (.cells #[.int .u16 y, .string s, .bool v] 35)) = V1 at *
            generalize v1.heap.size = p1 at *
            clear q0 q1
            refine (M2.out V1 K1.out.2.1).mono ?_
            rintro e v2 ⟨rfl, hb⟩
            have K2 : Hid (OwnM (v2.alloc (.cells #[.int .u16 y, .string s, .bool v] 35)) W2.heap.size W2.heap.size (n + 1) (n + 1) (seg (fun i => (I i, S i, V i)) 0 k ++ [(y, ad, vo)] ++ seg (fun i => (I i, S i, V i)) k n) ∧ OwnM (v2.alloc (.cells #[.int .u16 y, .string s, .bool v] 35)) B1 b2 k k (seg (fun i => (I i, S i, V i)) 0 k) ∧ OwnM (v2.alloc (.cells #[.int .u16 y, .string s, .bool v] 35)) w.heap.size b1 n n (seg (fun i => (I i, S i, V i)) 0 n) ∧ (v2.alloc (.cells #[.int .u16 y, .string s, .bool v] 35)).heap[g1]? = some (.cells #[.int .u64 x, .slice (some ⟨b1, 0, none⟩) (n) (n)] 31 (0, 0)) ∧ (v2.alloc (.cells #[.int .u16 y, .string s, .bool v] 35)).heap[g2]? = some (.cells #[.int .u64 x, .slice (some ⟨b2, 0, none⟩) (k) (k)] 31 (0, 0)) ∧ (v2.alloc (.cells #[.int .u16 y, .string s, .bool v] 35)).heap[g3]? = some (.cells #[.int .u64 x, .slice (some ⟨W2.heap.size, 0, none⟩) (n + 1) (n + 1)] 31 (0, 0)) ∧ (v2.alloc (.cells #[.int .u16 y, .string s, .bool v] 35)).heap[Pn]? = some (.cells #[.int .u16 y, .string ad, .bool vo] 35 (0, 0)) ∧ Below w.heap.size w (v2.alloc (.cells #[.int .u16 y, .string s, .bool v] 35)) ∧ g1 < (v2.alloc (.cells #[.int .u16 y, .string s, .bool v] 35)).heap.size ∧ g2 < (v2.alloc (.cells #[.int .u16 y, .string s, .bool v] 35)).heap.size ∧ g3 < (v2.alloc (.cells #[.int .u16 y, .string s, .bool v] 35)).heap.size ∧ Pn < (v2.alloc (.cells #[.int .u16 y, .string s, .bool v] 35)).heap.size) := by
              obtain ⟨o0, o2, o1, e1, e2, e3, ep, bl, s1, s2, s3, sp⟩ := K1.out
              have hs := hb.size
              have hs2 := bl.size
              exact ⟨World.ownsRow.alloc (o0.below hb o0.lt.2) _, World.ownsRow.alloc (o2.below hb o2.lt.2) _, World.ownsRow.alloc (o1.below hb o1.lt.2) _, (Below.heap_alloc _ _ _ (by omega)).trans ((hb.block _ s1).trans e1), (Below.heap_alloc _ _ _ (by omega)).trans ((hb.block _ s2).trans e2), (Below.heap_alloc _ _ _ (by omega)).trans ((hb.block _ s3).trans e3), (Below.heap_alloc _ _ _ (by omega)).trans ((hb.block _ sp).trans ep),
                (bl.trans (hb.mono hs2)).alloc (by omega) _, by simp; omega, by simp; omega, by simp; omega, by simp; omega⟩
            have P2 : Hid ((v2.alloc (.cells #[.int .u16 y, .string s, .bool v] 35)).heap[p1]? = some (.cells #[.int .u16 y, .string s, .bool v] 35 (0, 0)) ∧ p1 < (v2.alloc (.cells #[.int .u16 y, .string s, .bool v] 35)).heap.size) := ⟨(Below.heap_alloc _ _ _ (by have := hb.size; have := P1.out.2; omega)).trans ((hb.block _ P1.out.2).trans P1.out.1), by have := hb.size; have := P1.out.2; simp; omega⟩
            have c0 : (v2.alloc (.cells #[.int .u16 y, .string s, .bool v] 35)).cell? ⟨Pn, 0, none⟩ = some (.int .u16 y) := cell_in K2.out.2.2.2.2.2.2.1 rfl
            have c1 : (v2.alloc (.cells #[.int .u16 y, .string s, .bool v] 35)).cell? ⟨Pn, 1, none⟩ = some (.string ad) := cell_in K2.out.2.2.2.2.2.2.1 rfl
            have c2 : (v2.alloc (.cells #[.int .u16 y, .string s, .bool v] 35)).cell? ⟨Pn, 2, none⟩ = some (.bool vo) := cell_in K2.out.2.2.2.2.2.2.1 rfl
            have sP : Pn < (v2.alloc (.cells #[.int .u16 y, .string s, .bool v] 35)).heap.size := K2.out.2.2.2.2.2.2.2.2.2.2.2
            have K3 : Hid (OwnM ((v2.alloc (.cells #[.int .u16 y, .string s, .bool v] 35)).alloc (.cells #[.int .u16 y, .string s, .bool v] 35)) W2.heap.size W2.heap.size (n + 1) (n + 1) (seg (fun i => (I i, S i, V i)) 0 k ++ [(y, ad, vo)] ++ seg (fun i => (I i, S i, V i)) k n) ∧ OwnM ((v2.alloc (.cells #[.int .u16 y, .string s, .bool v] 35)).alloc (.cells #[.int .u16 y, .string s, .bool v] 35)) B1 b2 k k (seg (fun i => (I i, S i, V i)) 0 k) ∧ OwnM ((v2.alloc (.cells #[.int .u16 y, .string s, .bool v] 35)).alloc (.cells #[.int .u16 y, .string s, .bool v] 35)) w.heap.size b1 n n (seg (fun i => (I i, S i, V i)) 0 n) ∧ ((v2.alloc (.cells #[.int .u16 y, .string s, .bool v] 35)).alloc (.cells #[.int .u16 y, .string s, .bool v] 35)).heap[g1]? = some (.cells #[.int .u64 x, .slice (some ⟨b1, 0, none⟩) (n) (n)] 31 (0, 0)) ∧ ((v2.alloc (.cells #[.int .u16 y, .string s, .bool v] 35)).alloc (.cells #[.int .u16 y, .string s, .bool v] 35)).heap[g2]? = some (.cells #[.int .u64 x, .slice (some ⟨b2, 0, none⟩) (k) (k)] 31 (0, 0)) ∧ ((v2.alloc (.cells #[.int .u16 y, .string s, .bool v] 35)).alloc (.cells #[.int .u16 y, .string s, .bool v] 35)).heap[g3]? = some (.cells #[.int .u64 x, .slice (some ⟨W2.heap.size, 0, none⟩) (n + 1) (n + 1)] 31 (0, 0)) ∧ ((v2.alloc (.cells #[.int .u16 y, .string s, .bool v] 35)).alloc (.cells #[.int .u16 y, .string s, .bool v] 35)).heap[Pn]? = some (.cells #[.int .u16 y, .string ad, .bool vo] 35 (0, 0)) ∧ Below w.heap.size w ((v2.alloc (.cells #[.int .u16 y, .string s, .bool v] 35)).alloc (.cells #[.int .u16 y, .string s, .bool v] 35)) ∧ g1 < ((v2.alloc (.cells #[.int .u16 y, .string s, .bool v] 35)).alloc (.cells #[.int .u16 y, .string s, .bool v] 35)).heap.size ∧ g2 < ((v2.alloc (.cells #[.int .u16 y, .string s, .bool v] 35)).alloc (.cells #[.int .u16 y, .string s, .bool v] 35)).heap.size ∧ g3 < ((v2.alloc (.cells #[.int .u16 y, .string s, .bool v] 35)).alloc (.cells #[.int .u16 y, .string s, .bool v] 35)).heap.size ∧ Pn < ((v2.alloc (.cells #[.int .u16 y, .string s, .bool v] 35)).alloc (.cells #[.int .u16 y, .string s, .bool v] 35)).heap.size) := by
              obtain ⟨o0, o2, o1, e1, e2, e3, ep, bl, s1, s2, s3, sp⟩ := K2.out
              exact ⟨World.ownsRow.alloc o0 _, World.ownsRow.alloc o2 _, World.ownsRow.alloc o1 _, (Below.heap_alloc _ _ _ s1).trans e1, (Below.heap_alloc _ _ _ s2).trans e2, (Below.heap_alloc _ _ _ s3).trans e3, (Below.heap_alloc _ _ _ sp).trans ep, bl.alloc bl.size _, by simp at *; omega, by simp at *; omega, by simp at *; omega, by simp at *; omega⟩
            have P3 : Hid (((v2.alloc (.cells #[.int .u16 y, .string s, .bool v] 35)).alloc (.cells #[.int .u16 y, .string s, .bool v] 35)).heap[p1]? = some (.cells #[.int .u16 y, .string s, .bool v] 35 (0, 0)) ∧ ((v2.alloc (.cells #[.int .u16 y, .string s, .bool v] 35)).alloc (.cells #[.int .u16 y, .string s, .bool v] 35)).heap[v2.heap.size + 1]? = some (.cells #[.int .u16 y, .string s, .bool v] 35 (0, 0))) := by
              refine ⟨(Below.heap_alloc _ _ _ P2.out.2).trans P2.out.1, ?_⟩
              have := heap_alloc_new (v2.alloc (.cells #[.int .u16 y, .string s, .bool v] 35)) (.cells #[.int .u16 y, .string s, .bool v] 35)
              simpa using this
            have d0 : ((v2.alloc (.cells #[.int .u16 y, .string s, .bool v] 35)).alloc (.cells #[.int .u16 y, .string s, .bool v] 35)).cell? ⟨p1, 0, none⟩ = some (.int .u16 y) := cell_in P3.out.1 rfl
            have d1 : ((v2.alloc (.cells #[.int .u16 y, .string s, .bool v] 35)).alloc (.cells #[.int .u16 y, .string s, .bool v] 35)).cell? ⟨p1, 1, none⟩ = some (.string s) := cell_in P3.out.1 rfl
            have d2 : ((v2.alloc (.cells #[.int .u16 y, .string s, .bool v] 35)).alloc (.cells #[.int .u16 y, .string s, .bool v] 35)).cell? ⟨p1, 2, none⟩ = some (.bool v) := cell_in P3.out.1 rfl
            have f0 : ((v2.alloc (.cells #[.int .u16 y, .string s, .bool v] 35)).alloc (.cells #[.int .u16 y, .string s, .bool v] 35)).cell? ⟨v2.heap.size + 1, 0, none⟩ = some (.int .u16 y) := cell_in P3.out.2 rfl
            have f1 : ((v2.alloc (.cells #[.int .u16 y, .string s, .bool v] 35)).alloc (.cells #[.int .u16 y, .string s, .bool v] 35)).cell? ⟨v2.heap.size + 1, 1, none⟩ = some (.string s) := cell_in P3.out.2 rfl
            have f2 : ((v2.alloc (.cells #[.int .u16 y, .string s, .bool v] 35)).alloc (.cells #[.int .u16 y, .string s, .bool v] 35)).cell? ⟨v2.heap.size + 1, 2, none⟩ = some (.bool v) := cell_in P3.out.2 rfl
            have h0 : ((v2.alloc (.cells #[.int .u16 y, .string s, .bool v] 35)).alloc (.cells #[.int .u16 y, .string s, .bool v] 35)).cell? ⟨g1, 0, none⟩ = some (.int .u64 x) := cell_in K3.out.2.2.2.1 rfl
            have h1 : ((v2.alloc (.cells #[.int .u16 y, .string s, .bool v] 35)).alloc (.cells #[.int .u16 y, .string s, .bool v] 35)).cell? ⟨g1, 1, none⟩ = some (.slice (some ⟨b1, 0, none⟩) n n) := cell_in K3.out.2.2.2.1 rfl
            clear hb K1 K2 P1 P2
            by_cases eq : q = y
            · have tq : (q == y) = true := by rw [beq_iff_eq]; exact eq
              clear eq
              go_wp2_with fail
              go_ret
              exact ⟨rfl, K3.out.2.2.2.2.2.2.2.1⟩
            · have tq : (q == y) = false := by rw [beq_eq_false_iff_ne]; exact eq
              have HQ : Hid (look q (seg (fun i => (I i, S i, V i)) 0 k ++ [(y, ad, vo)] ++ seg (fun i => (I i, S i, V i)) k n) = look q (seg (fun i => (I i, S i, V i)) 0 n)) := look_other hk eq
              clear eq
              go_wp2_with fail
              generalize ((v2.alloc (.cells #[.int .u16 y, .string s, .bool v] 35)).alloc (.cells #[.int .u16 y, .string s, .bool v] 35)) = W5 at *
              clear c0 sP d0 d1 d2 f0 f1 f2 h0 h1
              obtain ⟨ro, hro⟩ : ∃ ro, look q (seg (fun i => (I i, S i, V i)) 0 n) = ro := ⟨_, rfl⟩
              obtain ⟨rm, hrm⟩ : ∃ rm, ro.getD zeroM = rm := ⟨_, rfl⟩
              obtain ⟨ry, rs, rv⟩ := rm
              obtain ⟨rb, hrb⟩ : ∃ rb, ro.isSome = rb := ⟨_, rfl⟩
              have hq4 := HQ.out
              rw [hro] at hq4
              have M3 : Hid (∀ W : World, OwnM W (w.heap.size) (b1) (n) (n) (seg (fun i => (I i, S i, V i)) 0 n) → Calls Try.prog 8 #[.agg #[.int .u64 x, .slice (some ⟨b1, 0, none⟩) (n) (n)], .int .u16 q] W fun e w' => e = .returned (.tuple #[.agg #[.int .u16 ry, .string rs, .bool rv], .bool rb]) ∧ Below W.heap.size W w') := fun W ho => by
                have h := member_calls x q (b1) (n) _ (seg (fun i => (I i, S i, V i)) 0 n) W (by omega) ho
                rw [hro, hrm, hrb] at h
                exact h
              have M4 : Hid (∀ W : World, OwnM W (W2.heap.size) (W2.heap.size) (n + 1) (n + 1) (seg (fun i => (I i, S i, V i)) 0 k ++ [(y, ad, vo)] ++ seg (fun i => (I i, S i, V i)) k n) → Calls Try.prog 8 #[.agg #[.int .u64 x, .slice (some ⟨W2.heap.size, 0, none⟩) (n + 1) (n + 1)], .int .u16 q] W fun e w' => e = .returned (.tuple #[.agg #[.int .u16 ry, .string rs, .bool rv], .bool rb]) ∧ Below W.heap.size W w') := fun W ho => by
                have h := member_calls x q (W2.heap.size) (n + 1) _ (seg (fun i => (I i, S i, V i)) 0 k ++ [(y, ad, vo)] ++ seg (fun i => (I i, S i, V i)) k n) W (by omega) ho
                rw [hq4, hrm, hrb] at h
                exact h
              clear hro hrm hrb hq4 HQ
              refine (M3.out W5 K3.out.2.2.1).mono ?_
              rintro e v3 ⟨rfl, hb⟩
              have K4 : Hid (OwnM (v3.alloc (.cells #[.int .u16 ry, .string rs, .bool rv] 35)) W2.heap.size W2.heap.size (n + 1) (n + 1) (seg (fun i => (I i, S i, V i)) 0 k ++ [(y, ad, vo)] ++ seg (fun i => (I i, S i, V i)) k n) ∧ OwnM (v3.alloc (.cells #[.int .u16 ry, .string rs, .bool rv] 35)) B1 b2 k k (seg (fun i => (I i, S i, V i)) 0 k) ∧ OwnM (v3.alloc (.cells #[.int .u16 ry, .string rs, .bool rv] 35)) w.heap.size b1 n n (seg (fun i => (I i, S i, V i)) 0 n) ∧ (v3.alloc (.cells #[.int .u16 ry, .string rs, .bool rv] 35)).heap[g1]? = some (.cells #[.int .u64 x, .slice (some ⟨b1, 0, none⟩) (n) (n)] 31 (0, 0)) ∧ (v3.alloc (.cells #[.int .u16 ry, .string rs, .bool rv] 35)).heap[g2]? = some (.cells #[.int .u64 x, .slice (some ⟨b2, 0, none⟩) (k) (k)] 31 (0, 0)) ∧ (v3.alloc (.cells #[.int .u16 ry, .string rs, .bool rv] 35)).heap[g3]? = some (.cells #[.int .u64 x, .slice (some ⟨W2.heap.size, 0, none⟩) (n + 1) (n + 1)] 31 (0, 0)) ∧ (v3.alloc (.cells #[.int .u16 ry, .string rs, .bool rv] 35)).heap[Pn]? = some (.cells #[.int .u16 y, .string ad, .bool vo] 35 (0, 0)) ∧ Below w.heap.size w (v3.alloc (.cells #[.int .u16 ry, .string rs, .bool rv] 35)) ∧ g1 < (v3.alloc (.cells #[.int .u16 ry, .string rs, .bool rv] 35)).heap.size ∧ g2 < (v3.alloc (.cells #[.int .u16 ry, .string rs, .bool rv] 35)).heap.size ∧ g3 < (v3.alloc (.cells #[.int .u16 ry, .string rs, .bool rv] 35)).heap.size ∧ Pn < (v3.alloc (.cells #[.int .u16 ry, .string rs, .bool rv] 35)).heap.size) := by
                obtain ⟨o0, o2, o1, e1, e2, e3, ep, bl, s1, s2, s3, sp⟩ := K3.out
                have hs := hb.size
                have hs2 := bl.size
                exact ⟨World.ownsRow.alloc (o0.below hb o0.lt.2) _, World.ownsRow.alloc (o2.below hb o2.lt.2) _, World.ownsRow.alloc (o1.below hb o1.lt.2) _, (Below.heap_alloc _ _ _ (by omega)).trans ((hb.block _ s1).trans e1), (Below.heap_alloc _ _ _ (by omega)).trans ((hb.block _ s2).trans e2), (Below.heap_alloc _ _ _ (by omega)).trans ((hb.block _ s3).trans e3), (Below.heap_alloc _ _ _ (by omega)).trans ((hb.block _ sp).trans ep),
                  (bl.trans (hb.mono hs2)).alloc (by omega) _, by simp; omega, by simp; omega, by simp; omega, by simp; omega⟩
              have P4 : Hid ((v3.alloc (.cells #[.int .u16 ry, .string rs, .bool rv] 35)).heap[v3.heap.size]? = some (.cells #[.int .u16 ry, .string rs, .bool rv] 35 (0, 0)) ∧ v3.heap.size < (v3.alloc (.cells #[.int .u16 ry, .string rs, .bool rv] 35)).heap.size) := ⟨heap_alloc_new _ _, by simp⟩
              have q0 : (v3.alloc (.cells #[.int .u16 ry, .string rs, .bool rv] 35)).cell? ⟨g3, 0, none⟩ = some (.int .u64 x) := cell_in K4.out.2.2.2.2.2.1 rfl
              have q1 : (v3.alloc (.cells #[.int .u16 ry, .string rs, .bool rv] 35)).cell? ⟨g3, 1, none⟩ = some (.slice (some ⟨W2.heap.size, 0, none⟩) (n + 1) (n + 1)) := cell_in K4.out.2.2.2.2.2.1 rfl
              clear hb K3 P3
              go_wp2_with fail
              generalize (v3.alloc (.cells #[.int .u16 ry, .string rs, .bool rv] 35)) = V4 at *
              generalize v3.heap.size = p5 at *
              clear q0 q1
              refine (M4.out V4 K4.out.1).mono ?_
              rintro e v4 ⟨rfl, hb⟩
              have P5 : (v4.alloc (.cells #[.int .u16 ry, .string rs, .bool rv] 35)).heap[p5]? = some (.cells #[.int .u16 ry, .string rs, .bool rv] 35 (0, 0)) := (Below.heap_alloc _ _ _ (by have := hb.size; have := P4.out.2; omega)).trans ((hb.block _ P4.out.2).trans P4.out.1)
              have c0 : (v4.alloc (.cells #[.int .u16 ry, .string rs, .bool rv] 35)).cell? ⟨p5, 0, none⟩ = some (.int .u16 ry) := cell_in P5 rfl
              have c1 : (v4.alloc (.cells #[.int .u16 ry, .string rs, .bool rv] 35)).cell? ⟨p5, 1, none⟩ = some (.string rs) := cell_in P5 rfl
              have c2 : (v4.alloc (.cells #[.int .u16 ry, .string rs, .bool rv] 35)).cell? ⟨p5, 2, none⟩ = some (.bool rv) := cell_in P5 rfl
              have P6 : (v4.alloc (.cells #[.int .u16 ry, .string rs, .bool rv] 35)).heap[v4.heap.size]? = some (.cells #[.int .u16 ry, .string rs, .bool rv] 35 (0, 0)) := heap_alloc_new _ _
              have d0 : (v4.alloc (.cells #[.int .u16 ry, .string rs, .bool rv] 35)).cell? ⟨v4.heap.size, 0, none⟩ = some (.int .u16 ry) := cell_in P6 rfl
              have d1 : (v4.alloc (.cells #[.int .u16 ry, .string rs, .bool rv] 35)).cell? ⟨v4.heap.size, 1, none⟩ = some (.string rs) := cell_in P6 rfl
              have d2 : (v4.alloc (.cells #[.int .u16 ry, .string rs, .bool rv] 35)).cell? ⟨v4.heap.size, 2, none⟩ = some (.bool rv) := cell_in P6 rfl
              have HF : Hid (Below w.heap.size w (v4.alloc (.cells #[.int .u16 ry, .string rs, .bool rv] 35))) := (K4.out.2.2.2.2.2.2.2.1.trans (hb.mono K4.out.2.2.2.2.2.2.2.1.size)).alloc (by have := hb.size; have := K4.out.2.2.2.2.2.2.2.1.size; omega) _
              clear P5 P6 hb K4 P4
              go_wp2_with fail
              go_ret
              exact ⟨by simp, HF.out⟩
          | none =>
            have hg : look id (seg (fun i => (I i, S i, V i)) 0 k ++ [(id, ad, vo)] ++ seg (fun i => (I i, S i, V i)) k n) = some (id, ad, vo) := by rw [hins, hp]; rfl
            clear hins
            have M1 : Hid (∀ W : World, OwnM W (W2.heap.size) (W2.heap.size) (n + 1) (n + 1) (seg (fun i => (I i, S i, V i)) 0 k ++ [(id, ad, vo)] ++ seg (fun i => (I i, S i, V i)) k n) → Calls Try.prog 8 #[.agg #[.int .u64 x, .slice (some ⟨W2.heap.size, 0, none⟩) (n + 1) (n + 1)], .int .u16 id] W fun e w' => e = .returned (.tuple #[.agg #[.int .u16 id, .string ad, .bool vo], .bool true]) ∧ Below W.heap.size W w') := fun W ho => by
              have h := member_calls x id (W2.heap.size) (n + 1) _ (seg (fun i => (I i, S i, V i)) 0 k ++ [(id, ad, vo)] ++ seg (fun i => (I i, S i, V i)) k n) W (by omega) ho
              rw [hg] at h
              exact h
            have M2 : Hid (∀ W : World, OwnM W (B1) (b2) (k) (k) (seg (fun i => (I i, S i, V i)) 0 k) → Calls Try.prog 8 #[.agg #[.int .u64 x, .slice (some ⟨b2, 0, none⟩) (k) (k)], .int .u16 id] W fun e w' => e = .returned (.tuple #[.agg #[.int .u16 0, .string { data := #[] }, .bool false], .bool false]) ∧ Below W.heap.size W w') := fun W ho => by
              have h := member_calls x id (b2) (k) _ (seg (fun i => (I i, S i, V i)) 0 k) W (by omega) ho
              rw [hp] at h
              exact h
            clear hg hp
            refine (M1.out W4 K0.out.1).mono ?_
            rintro e v1 ⟨rfl, hb⟩
            have K1 : Hid (OwnM (v1.alloc (.cells #[.int .u16 id, .string ad, .bool vo] 35)) W2.heap.size W2.heap.size (n + 1) (n + 1) (seg (fun i => (I i, S i, V i)) 0 k ++ [(id, ad, vo)] ++ seg (fun i => (I i, S i, V i)) k n) ∧ OwnM (v1.alloc (.cells #[.int .u16 id, .string ad, .bool vo] 35)) B1 b2 k k (seg (fun i => (I i, S i, V i)) 0 k) ∧ OwnM (v1.alloc (.cells #[.int .u16 id, .string ad, .bool vo] 35)) w.heap.size b1 n n (seg (fun i => (I i, S i, V i)) 0 n) ∧ (v1.alloc (.cells #[.int .u16 id, .string ad, .bool vo] 35)).heap[g1]? = some (.cells #[.int .u64 x, .slice (some ⟨b1, 0, none⟩) (n) (n)] 31 (0, 0)) ∧ (v1.alloc (.cells #[.int .u16 id, .string ad, .bool vo] 35)).heap[g2]? = some (.cells #[.int .u64 x, .slice (some ⟨b2, 0, none⟩) (k) (k)] 31 (0, 0)) ∧ (v1.alloc (.cells #[.int .u16 id, .string ad, .bool vo] 35)).heap[g3]? = some (.cells #[.int .u64 x, .slice (some ⟨W2.heap.size, 0, none⟩) (n + 1) (n + 1)] 31 (0, 0)) ∧ (v1.alloc (.cells #[.int .u16 id, .string ad, .bool vo] 35)).heap[Pn]? = some (.cells #[.int .u16 id, .string ad, .bool vo] 35 (0, 0)) ∧ Below w.heap.size w (v1.alloc (.cells #[.int .u16 id, .string ad, .bool vo] 35)) ∧ g1 < (v1.alloc (.cells #[.int .u16 id, .string ad, .bool vo] 35)).heap.size ∧ g2 < (v1.alloc (.cells #[.int .u16 id, .string ad, .bool vo] 35)).heap.size ∧ g3 < (v1.alloc (.cells #[.int .u16 id, .string ad, .bool vo] 35)).heap.size ∧ Pn < (v1.alloc (.cells #[.int .u16 id, .string ad, .bool vo] 35)).heap.size) := by
              obtain ⟨o0, o2, o1, e1, e2, e3, ep, bl, s1, s2, s3, sp⟩ := K0.out
              have hs := hb.size
              have hs2 := bl.size
              exact ⟨World.ownsRow.alloc (o0.below hb o0.lt.2) _, World.ownsRow.alloc (o2.below hb o2.lt.2) _, World.ownsRow.alloc (o1.below hb o1.lt.2) _, (Below.heap_alloc _ _ _ (by omega)).trans ((hb.block _ s1).trans e1), (Below.heap_alloc _ _ _ (by omega)).trans ((hb.block _ s2).trans e2), (Below.heap_alloc _ _ _ (by omega)).trans ((hb.block _ s3).trans e3), (Below.heap_alloc _ _ _ (by omega)).trans ((hb.block _ sp).trans ep),
                (bl.trans (hb.mono hs2)).alloc (by omega) _, by simp; omega, by simp; omega, by simp; omega, by simp; omega⟩
            have P1 : Hid ((v1.alloc (.cells #[.int .u16 id, .string ad, .bool vo] 35)).heap[v1.heap.size]? = some (.cells #[.int .u16 id, .string ad, .bool vo] 35 (0, 0)) ∧ v1.heap.size < (v1.alloc (.cells #[.int .u16 id, .string ad, .bool vo] 35)).heap.size) := ⟨heap_alloc_new _ _, by simp⟩
            have q0 : (v1.alloc (.cells #[.int .u16 id, .string ad, .bool vo] 35)).cell? ⟨g2, 0, none⟩ = some (.int .u64 x) := cell_in K1.out.2.2.2.2.1 rfl
            have q1 : (v1.alloc (.cells #[.int .u16 id, .string ad, .bool vo] 35)).cell? ⟨g2, 1, none⟩ = some (.slice (some ⟨b2, 0, none⟩) k k) := cell_in K1.out.2.2.2.2.1 rfl
            clear hb K0
            go_wp2_with fail
            generalize (v1.alloc (.cells #[.int .u16 id, .string ad, .bool vo] 35)) = V1 at *
            generalize v1.heap.size = p1 at *
            clear q0 q1
            refine (M2.out V1 K1.out.2.1).mono ?_
            rintro e v2 ⟨rfl, hb⟩
            have K2 : Hid (OwnM (v2.alloc (.cells #[.int .u16 0, .string { data := #[] }, .bool false] 35)) W2.heap.size W2.heap.size (n + 1) (n + 1) (seg (fun i => (I i, S i, V i)) 0 k ++ [(id, ad, vo)] ++ seg (fun i => (I i, S i, V i)) k n) ∧ OwnM (v2.alloc (.cells #[.int .u16 0, .string { data := #[] }, .bool false] 35)) B1 b2 k k (seg (fun i => (I i, S i, V i)) 0 k) ∧ OwnM (v2.alloc (.cells #[.int .u16 0, .string { data := #[] }, .bool false] 35)) w.heap.size b1 n n (seg (fun i => (I i, S i, V i)) 0 n) ∧ (v2.alloc (.cells #[.int .u16 0, .string { data := #[] }, .bool false] 35)).heap[g1]? = some (.cells #[.int .u64 x, .slice (some ⟨b1, 0, none⟩) (n) (n)] 31 (0, 0)) ∧ (v2.alloc (.cells #[.int .u16 0, .string { data := #[] }, .bool false] 35)).heap[g2]? = some (.cells #[.int .u64 x, .slice (some ⟨b2, 0, none⟩) (k) (k)] 31 (0, 0)) ∧ (v2.alloc (.cells #[.int .u16 0, .string { data := #[] }, .bool false] 35)).heap[g3]? = some (.cells #[.int .u64 x, .slice (some ⟨W2.heap.size, 0, none⟩) (n + 1) (n + 1)] 31 (0, 0)) ∧ (v2.alloc (.cells #[.int .u16 0, .string { data := #[] }, .bool false] 35)).heap[Pn]? = some (.cells #[.int .u16 id, .string ad, .bool vo] 35 (0, 0)) ∧ Below w.heap.size w (v2.alloc (.cells #[.int .u16 0, .string { data := #[] }, .bool false] 35)) ∧ g1 < (v2.alloc (.cells #[.int .u16 0, .string { data := #[] }, .bool false] 35)).heap.size ∧ g2 < (v2.alloc (.cells #[.int .u16 0, .string { data := #[] }, .bool false] 35)).heap.size ∧ g3 < (v2.alloc (.cells #[.int .u16 0, .string { data := #[] }, .bool false] 35)).heap.size ∧ Pn < (v2.alloc (.cells #[.int .u16 0, .string { data := #[] }, .bool false] 35)).heap.size) := by
              obtain ⟨o0, o2, o1, e1, e2, e3, ep, bl, s1, s2, s3, sp⟩ := K1.out
              have hs := hb.size
              have hs2 := bl.size
              exact ⟨World.ownsRow.alloc (o0.below hb o0.lt.2) _, World.ownsRow.alloc (o2.below hb o2.lt.2) _, World.ownsRow.alloc (o1.below hb o1.lt.2) _, (Below.heap_alloc _ _ _ (by omega)).trans ((hb.block _ s1).trans e1), (Below.heap_alloc _ _ _ (by omega)).trans ((hb.block _ s2).trans e2), (Below.heap_alloc _ _ _ (by omega)).trans ((hb.block _ s3).trans e3), (Below.heap_alloc _ _ _ (by omega)).trans ((hb.block _ sp).trans ep),
                (bl.trans (hb.mono hs2)).alloc (by omega) _, by simp; omega, by simp; omega, by simp; omega, by simp; omega⟩
            have P2 : Hid ((v2.alloc (.cells #[.int .u16 0, .string { data := #[] }, .bool false] 35)).heap[p1]? = some (.cells #[.int .u16 id, .string ad, .bool vo] 35 (0, 0)) ∧ p1 < (v2.alloc (.cells #[.int .u16 0, .string { data := #[] }, .bool false] 35)).heap.size) := ⟨(Below.heap_alloc _ _ _ (by have := hb.size; have := P1.out.2; omega)).trans ((hb.block _ P1.out.2).trans P1.out.1), by have := hb.size; have := P1.out.2; simp; omega⟩
            have c0 : (v2.alloc (.cells #[.int .u16 0, .string { data := #[] }, .bool false] 35)).cell? ⟨Pn, 0, none⟩ = some (.int .u16 id) := cell_in K2.out.2.2.2.2.2.2.1 rfl
            have c1 : (v2.alloc (.cells #[.int .u16 0, .string { data := #[] }, .bool false] 35)).cell? ⟨Pn, 1, none⟩ = some (.string ad) := cell_in K2.out.2.2.2.2.2.2.1 rfl
            have c2 : (v2.alloc (.cells #[.int .u16 0, .string { data := #[] }, .bool false] 35)).cell? ⟨Pn, 2, none⟩ = some (.bool vo) := cell_in K2.out.2.2.2.2.2.2.1 rfl
            have sP : Pn < (v2.alloc (.cells #[.int .u16 0, .string { data := #[] }, .bool false] 35)).heap.size := K2.out.2.2.2.2.2.2.2.2.2.2.2
            have K3 : Hid (OwnM ((v2.alloc (.cells #[.int .u16 0, .string { data := #[] }, .bool false] 35)).alloc (.cells #[.int .u16 id, .string ad, .bool vo] 35)) W2.heap.size W2.heap.size (n + 1) (n + 1) (seg (fun i => (I i, S i, V i)) 0 k ++ [(id, ad, vo)] ++ seg (fun i => (I i, S i, V i)) k n) ∧ OwnM ((v2.alloc (.cells #[.int .u16 0, .string { data := #[] }, .bool false] 35)).alloc (.cells #[.int .u16 id, .string ad, .bool vo] 35)) B1 b2 k k (seg (fun i => (I i, S i, V i)) 0 k) ∧ OwnM ((v2.alloc (.cells #[.int .u16 0, .string { data := #[] }, .bool false] 35)).alloc (.cells #[.int .u16 id, .string ad, .bool vo] 35)) w.heap.size b1 n n (seg (fun i => (I i, S i, V i)) 0 n) ∧ ((v2.alloc (.cells #[.int .u16 0, .string { data := #[] }, .bool false] 35)).alloc (.cells #[.int .u16 id, .string ad, .bool vo] 35)).heap[g1]? = some (.cells #[.int .u64 x, .slice (some ⟨b1, 0, none⟩) (n) (n)] 31 (0, 0)) ∧ ((v2.alloc (.cells #[.int .u16 0, .string { data := #[] }, .bool false] 35)).alloc (.cells #[.int .u16 id, .string ad, .bool vo] 35)).heap[g2]? = some (.cells #[.int .u64 x, .slice (some ⟨b2, 0, none⟩) (k) (k)] 31 (0, 0)) ∧ ((v2.alloc (.cells #[.int .u16 0, .string { data := #[] }, .bool false] 35)).alloc (.cells #[.int .u16 id, .string ad, .bool vo] 35)).heap[g3]? = some (.cells #[.int .u64 x, .slice (some ⟨W2.heap.size, 0, none⟩) (n + 1) (n + 1)] 31 (0, 0)) ∧ ((v2.alloc (.cells #[.int .u16 0, .string { data := #[] }, .bool false] 35)).alloc (.cells #[.int .u16 id, .string ad, .bool vo] 35)).heap[Pn]? = some (.cells #[.int .u16 id, .string ad, .bool vo] 35 (0, 0)) ∧ Below w.heap.size w ((v2.alloc (.cells #[.int .u16 0, .string { data := #[] }, .bool false] 35)).alloc (.cells #[.int .u16 id, .string ad, .bool vo] 35)) ∧ g1 < ((v2.alloc (.cells #[.int .u16 0, .string { data := #[] }, .bool false] 35)).alloc (.cells #[.int .u16 id, .string ad, .bool vo] 35)).heap.size ∧ g2 < ((v2.alloc (.cells #[.int .u16 0, .string { data := #[] }, .bool false] 35)).alloc (.cells #[.int .u16 id, .string ad, .bool vo] 35)).heap.size ∧ g3 < ((v2.alloc (.cells #[.int .u16 0, .string { data := #[] }, .bool false] 35)).alloc (.cells #[.int .u16 id, .string ad, .bool vo] 35)).heap.size ∧ Pn < ((v2.alloc (.cells #[.int .u16 0, .string { data := #[] }, .bool false] 35)).alloc (.cells #[.int .u16 id, .string ad, .bool vo] 35)).heap.size) := by
              obtain ⟨o0, o2, o1, e1, e2, e3, ep, bl, s1, s2, s3, sp⟩ := K2.out
              exact ⟨World.ownsRow.alloc o0 _, World.ownsRow.alloc o2 _, World.ownsRow.alloc o1 _, (Below.heap_alloc _ _ _ s1).trans e1, (Below.heap_alloc _ _ _ s2).trans e2, (Below.heap_alloc _ _ _ s3).trans e3, (Below.heap_alloc _ _ _ sp).trans ep, bl.alloc bl.size _, by simp at *; omega, by simp at *; omega, by simp at *; omega, by simp at *; omega⟩
            have P3 : Hid (((v2.alloc (.cells #[.int .u16 0, .string { data := #[] }, .bool false] 35)).alloc (.cells #[.int .u16 id, .string ad, .bool vo] 35)).heap[p1]? = some (.cells #[.int .u16 id, .string ad, .bool vo] 35 (0, 0)) ∧ ((v2.alloc (.cells #[.int .u16 0, .string { data := #[] }, .bool false] 35)).alloc (.cells #[.int .u16 id, .string ad, .bool vo] 35)).heap[v2.heap.size + 1]? = some (.cells #[.int .u16 id, .string ad, .bool vo] 35 (0, 0))) := by
              refine ⟨(Below.heap_alloc _ _ _ P2.out.2).trans P2.out.1, ?_⟩
              have := heap_alloc_new (v2.alloc (.cells #[.int .u16 0, .string { data := #[] }, .bool false] 35)) (.cells #[.int .u16 id, .string ad, .bool vo] 35)
              simpa using this
            have d0 : ((v2.alloc (.cells #[.int .u16 0, .string { data := #[] }, .bool false] 35)).alloc (.cells #[.int .u16 id, .string ad, .bool vo] 35)).cell? ⟨p1, 0, none⟩ = some (.int .u16 id) := cell_in P3.out.1 rfl
            have d1 : ((v2.alloc (.cells #[.int .u16 0, .string { data := #[] }, .bool false] 35)).alloc (.cells #[.int .u16 id, .string ad, .bool vo] 35)).cell? ⟨p1, 1, none⟩ = some (.string ad) := cell_in P3.out.1 rfl
            have d2 : ((v2.alloc (.cells #[.int .u16 0, .string { data := #[] }, .bool false] 35)).alloc (.cells #[.int .u16 id, .string ad, .bool vo] 35)).cell? ⟨p1, 2, none⟩ = some (.bool vo) := cell_in P3.out.1 rfl
            have f0 : ((v2.alloc (.cells #[.int .u16 0, .string { data := #[] }, .bool false] 35)).alloc (.cells #[.int .u16 id, .string ad, .bool vo] 35)).cell? ⟨v2.heap.size + 1, 0, none⟩ = some (.int .u16 id) := cell_in P3.out.2 rfl
            have f1 : ((v2.alloc (.cells #[.int .u16 0, .string { data := #[] }, .bool false] 35)).alloc (.cells #[.int .u16 id, .string ad, .bool vo] 35)).cell? ⟨v2.heap.size + 1, 1, none⟩ = some (.string ad) := cell_in P3.out.2 rfl
            have f2 : ((v2.alloc (.cells #[.int .u16 0, .string { data := #[] }, .bool false] 35)).alloc (.cells #[.int .u16 id, .string ad, .bool vo] 35)).cell? ⟨v2.heap.size + 1, 2, none⟩ = some (.bool vo) := cell_in P3.out.2 rfl
            have h0 : ((v2.alloc (.cells #[.int .u16 0, .string { data := #[] }, .bool false] 35)).alloc (.cells #[.int .u16 id, .string ad, .bool vo] 35)).cell? ⟨g1, 0, none⟩ = some (.int .u64 x) := cell_in K3.out.2.2.2.1 rfl
            have h1 : ((v2.alloc (.cells #[.int .u16 0, .string { data := #[] }, .bool false] 35)).alloc (.cells #[.int .u16 id, .string ad, .bool vo] 35)).cell? ⟨g1, 1, none⟩ = some (.slice (some ⟨b1, 0, none⟩) n n) := cell_in K3.out.2.2.2.1 rfl
            clear hb K1 K2 P1 P2
            by_cases eq : q = id
            · have tq : (q == id) = true := by rw [beq_iff_eq]; exact eq
              clear eq
              go_wp2_with fail
              go_ret
              exact ⟨rfl, K3.out.2.2.2.2.2.2.2.1⟩
            · have tq : (q == id) = false := by rw [beq_eq_false_iff_ne]; exact eq
              have HQ : Hid (look q (seg (fun i => (I i, S i, V i)) 0 k ++ [(id, ad, vo)] ++ seg (fun i => (I i, S i, V i)) k n) = look q (seg (fun i => (I i, S i, V i)) 0 n)) := look_other hk eq
              clear eq
              go_wp2_with fail
              generalize ((v2.alloc (.cells #[.int .u16 0, .string { data := #[] }, .bool false] 35)).alloc (.cells #[.int .u16 id, .string ad, .bool vo] 35)) = W5 at *
              clear c0 sP d0 d1 d2 f0 f1 f2 h0 h1
              obtain ⟨ro, hro⟩ : ∃ ro, look q (seg (fun i => (I i, S i, V i)) 0 n) = ro := ⟨_, rfl⟩
              obtain ⟨rm, hrm⟩ : ∃ rm, ro.getD zeroM = rm := ⟨_, rfl⟩
              obtain ⟨ry, rs, rv⟩ := rm
              obtain ⟨rb, hrb⟩ : ∃ rb, ro.isSome = rb := ⟨_, rfl⟩
              have hq4 := HQ.out
              rw [hro] at hq4
              have M3 : Hid (∀ W : World, OwnM W (w.heap.size) (b1) (n) (n) (seg (fun i => (I i, S i, V i)) 0 n) → Calls Try.prog 8 #[.agg #[.int .u64 x, .slice (some ⟨b1, 0, none⟩) (n) (n)], .int .u16 q] W fun e w' => e = .returned (.tuple #[.agg #[.int .u16 ry, .string rs, .bool rv], .bool rb]) ∧ Below W.heap.size W w') := fun W ho => by
                have h := member_calls x q (b1) (n) _ (seg (fun i => (I i, S i, V i)) 0 n) W (by omega) ho
                rw [hro, hrm, hrb] at h
                exact h
              have M4 : Hid (∀ W : World, OwnM W (W2.heap.size) (W2.heap.size) (n + 1) (n + 1) (seg (fun i => (I i, S i, V i)) 0 k ++ [(id, ad, vo)] ++ seg (fun i => (I i, S i, V i)) k n) → Calls Try.prog 8 #[.agg #[.int .u64 x, .slice (some ⟨W2.heap.size, 0, none⟩) (n + 1) (n + 1)], .int .u16 q] W fun e w' => e = .returned (.tuple #[.agg #[.int .u16 ry, .string rs, .bool rv], .bool rb]) ∧ Below W.heap.size W w') := fun W ho => by
                have h := member_calls x q (W2.heap.size) (n + 1) _ (seg (fun i => (I i, S i, V i)) 0 k ++ [(id, ad, vo)] ++ seg (fun i => (I i, S i, V i)) k n) W (by omega) ho
                rw [hq4, hrm, hrb] at h
                exact h
              clear hro hrm hrb hq4 HQ
              refine (M3.out W5 K3.out.2.2.1).mono ?_
              rintro e v3 ⟨rfl, hb⟩
              have K4 : Hid (OwnM (v3.alloc (.cells #[.int .u16 ry, .string rs, .bool rv] 35)) W2.heap.size W2.heap.size (n + 1) (n + 1) (seg (fun i => (I i, S i, V i)) 0 k ++ [(id, ad, vo)] ++ seg (fun i => (I i, S i, V i)) k n) ∧ OwnM (v3.alloc (.cells #[.int .u16 ry, .string rs, .bool rv] 35)) B1 b2 k k (seg (fun i => (I i, S i, V i)) 0 k) ∧ OwnM (v3.alloc (.cells #[.int .u16 ry, .string rs, .bool rv] 35)) w.heap.size b1 n n (seg (fun i => (I i, S i, V i)) 0 n) ∧ (v3.alloc (.cells #[.int .u16 ry, .string rs, .bool rv] 35)).heap[g1]? = some (.cells #[.int .u64 x, .slice (some ⟨b1, 0, none⟩) (n) (n)] 31 (0, 0)) ∧ (v3.alloc (.cells #[.int .u16 ry, .string rs, .bool rv] 35)).heap[g2]? = some (.cells #[.int .u64 x, .slice (some ⟨b2, 0, none⟩) (k) (k)] 31 (0, 0)) ∧ (v3.alloc (.cells #[.int .u16 ry, .string rs, .bool rv] 35)).heap[g3]? = some (.cells #[.int .u64 x, .slice (some ⟨W2.heap.size, 0, none⟩) (n + 1) (n + 1)] 31 (0, 0)) ∧ (v3.alloc (.cells #[.int .u16 ry, .string rs, .bool rv] 35)).heap[Pn]? = some (.cells #[.int .u16 id, .string ad, .bool vo] 35 (0, 0)) ∧ Below w.heap.size w (v3.alloc (.cells #[.int .u16 ry, .string rs, .bool rv] 35)) ∧ g1 < (v3.alloc (.cells #[.int .u16 ry, .string rs, .bool rv] 35)).heap.size ∧ g2 < (v3.alloc (.cells #[.int .u16 ry, .string rs, .bool rv] 35)).heap.size ∧ g3 < (v3.alloc (.cells #[.int .u16 ry, .string rs, .bool rv] 35)).heap.size ∧ Pn < (v3.alloc (.cells #[.int .u16 ry, .string rs, .bool rv] 35)).heap.size) := by
                obtain ⟨o0, o2, o1, e1, e2, e3, ep, bl, s1, s2, s3, sp⟩ := K3.out
                have hs := hb.size
                have hs2 := bl.size
                exact ⟨World.ownsRow.alloc (o0.below hb o0.lt.2) _, World.ownsRow.alloc (o2.below hb o2.lt.2) _, World.ownsRow.alloc (o1.below hb o1.lt.2) _, (Below.heap_alloc _ _ _ (by omega)).trans ((hb.block _ s1).trans e1), (Below.heap_alloc _ _ _ (by omega)).trans ((hb.block _ s2).trans e2), (Below.heap_alloc _ _ _ (by omega)).trans ((hb.block _ s3).trans e3), (Below.heap_alloc _ _ _ (by omega)).trans ((hb.block _ sp).trans ep),
                  (bl.trans (hb.mono hs2)).alloc (by omega) _, by simp; omega, by simp; omega, by simp; omega, by simp; omega⟩
              have P4 : Hid ((v3.alloc (.cells #[.int .u16 ry, .string rs, .bool rv] 35)).heap[v3.heap.size]? = some (.cells #[.int .u16 ry, .string rs, .bool rv] 35 (0, 0)) ∧ v3.heap.size < (v3.alloc (.cells #[.int .u16 ry, .string rs, .bool rv] 35)).heap.size) := ⟨heap_alloc_new _ _, by simp⟩
              have q0 : (v3.alloc (.cells #[.int .u16 ry, .string rs, .bool rv] 35)).cell? ⟨g3, 0, none⟩ = some (.int .u64 x) := cell_in K4.out.2.2.2.2.2.1 rfl
              have q1 : (v3.alloc (.cells #[.int .u16 ry, .string rs, .bool rv] 35)).cell? ⟨g3, 1, none⟩ = some (.slice (some ⟨W2.heap.size, 0, none⟩) (n + 1) (n + 1)) := cell_in K4.out.2.2.2.2.2.1 rfl
              clear hb K3 P3
              go_wp2_with fail
              generalize (v3.alloc (.cells #[.int .u16 ry, .string rs, .bool rv] 35)) = V4 at *
              generalize v3.heap.size = p5 at *
              clear q0 q1
              refine (M4.out V4 K4.out.1).mono ?_
              rintro e v4 ⟨rfl, hb⟩
              have P5 : (v4.alloc (.cells #[.int .u16 ry, .string rs, .bool rv] 35)).heap[p5]? = some (.cells #[.int .u16 ry, .string rs, .bool rv] 35 (0, 0)) := (Below.heap_alloc _ _ _ (by have := hb.size; have := P4.out.2; omega)).trans ((hb.block _ P4.out.2).trans P4.out.1)
              have c0 : (v4.alloc (.cells #[.int .u16 ry, .string rs, .bool rv] 35)).cell? ⟨p5, 0, none⟩ = some (.int .u16 ry) := cell_in P5 rfl
              have c1 : (v4.alloc (.cells #[.int .u16 ry, .string rs, .bool rv] 35)).cell? ⟨p5, 1, none⟩ = some (.string rs) := cell_in P5 rfl
              have c2 : (v4.alloc (.cells #[.int .u16 ry, .string rs, .bool rv] 35)).cell? ⟨p5, 2, none⟩ = some (.bool rv) := cell_in P5 rfl
              have P6 : (v4.alloc (.cells #[.int .u16 ry, .string rs, .bool rv] 35)).heap[v4.heap.size]? = some (.cells #[.int .u16 ry, .string rs, .bool rv] 35 (0, 0)) := heap_alloc_new _ _
              have d0 : (v4.alloc (.cells #[.int .u16 ry, .string rs, .bool rv] 35)).cell? ⟨v4.heap.size, 0, none⟩ = some (.int .u16 ry) := cell_in P6 rfl
              have d1 : (v4.alloc (.cells #[.int .u16 ry, .string rs, .bool rv] 35)).cell? ⟨v4.heap.size, 1, none⟩ = some (.string rs) := cell_in P6 rfl
              have d2 : (v4.alloc (.cells #[.int .u16 ry, .string rs, .bool rv] 35)).cell? ⟨v4.heap.size, 2, none⟩ = some (.bool rv) := cell_in P6 rfl
              have HF : Hid (Below w.heap.size w (v4.alloc (.cells #[.int .u16 ry, .string rs, .bool rv] 35))) := (K4.out.2.2.2.2.2.2.2.1.trans (hb.mono K4.out.2.2.2.2.2.2.2.1.size)).alloc (by have := hb.size; have := K4.out.2.2.2.2.2.2.2.1.size; omega) _
              clear P5 P6 hb K4 P4
              go_wp2_with fail
              go_ret
              exact ⟨by simp, HF.out⟩
end Go.Proofs.Qxb6630809a

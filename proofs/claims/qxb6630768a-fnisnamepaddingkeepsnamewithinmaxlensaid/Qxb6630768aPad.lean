import Derived.Test.Qxb6630768aLetters
import Derived.WalkSmall
import Derived.OwnWalk
import Derived.Deep.AppendLies
import Derived.Deep.OwnRows
import Derived.Deep.QuietTactic
import Derived.Laws.BytesArg
/- The padded string: the walk. -/
namespace Go.Proofs.Qxb6630768a
open Go.RowKit

theorem info5 : (Try.prog.info? 5).map (fun i => (i.zero, i.size, i.bytes)) = some (some (.int .u8 0), 1, 1) := by kernel_rfl

/-- The row at block b, of room cap, holds the n bytes A. -/
def OwnB (w : World) (base b cap n : Nat) (A : List Int) : Prop := w.ownsRow base 5 1 (.slice (some ⟨b, 0, none⟩) n cap) n (A.map (Value.int .u8))

section
variable {w w' : World} {base b cap n : Nat} {A : List Int}
theorem OwnB.len (h : OwnB w base b cap n A) : A.length = n := by have := h.1; simpa using this
theorem OwnB.cell (h : OwnB w base b cap n A) {j : Nat} (hj : j < n) : w.cell? ⟨b, j, none⟩ = some (.int .u8 (A.getD j 0)) := by
  have hl := h.len
  rw [World.ownsRow.cellAt h j (by omega)]
  simp [List.getD, show j < A.length by omega]
theorem OwnB.snoc {x : Int} (h : w.ownsRow base 5 1 (.slice (some ⟨b, 0, none⟩) (n + 1) cap) (n + 1) (A.map (Value.int .u8) ++ [.int .u8 x])) : OwnB w base b cap (n + 1) (A ++ [x]) := by
  unfold OwnB
  rw [List.map_append]
  exact h
theorem OwnB.start (w : World) (base cap : Nat) (hb : base ≤ w.heap.size) (hm : cap ≤ maxLen) : OwnB (w.alloc (.cells (madeCells #[.int .u8 0] cap) 5)) base w.heap.size cap 0 [] :=
  World.ownsRow_made w _ cap hb hm (by rw [size_madeCells, Nat.mul_one])
end

theorem one_new (w : World) (x : Int) : ∀ j u, [Value.int .u8 x][j]? = some u → (w.alloc (.cells #[.int .u8 x] 5)).cell? ((⟨w.heap.size, 0, none⟩ : Addr).add j) = some u :=
  World.news_of_block (cs := #[.int .u8 x]) (t := 5) (fr := (0, 0)) (heap_alloc_new w _)

theorem one_ok (x : Int) : ∀ u ∈ [Value.int .u8 x], u.oneCell' = true := by simp [Value.oneCell']

theorem below_app {w w0 w1 : World} {o : Obj} {g m : Nat} (hb : Below w0.heap.size w0 w) (hs : w0.heap.size + m ≤ w.heap.size) (hg : (w.alloc o).grownBy w1 (some g)) (hgb : w0.heap.size ≤ g) :
    Below w0.heap.size w0 w1 ∧ w0.heap.size + m ≤ w1.heap.size := by
  refine ⟨(hb.alloc (by omega) o).grown hg (by simp; omega) (fun k hk => by obtain rfl := Option.some.inj hk; exact hgb), ?_⟩
  have := hg.size
  simp at this
  omega

/-- The bytes of s below i, as numbers. -/
def bytesTo (s : ByteArray) (i : Nat) : List Int := (List.range i).map (byteAt s)

theorem bytesTo_succ (s : ByteArray) (i : Nat) : bytesTo s (i + 1) = bytesTo s i ++ [byteAt s i] := by simp [bytesTo, List.range_succ]

/-- What the padded string holds. -/
def padded (s : ByteArray) (n m : Nat) : List Int := List.replicate n 95 ++ bytesTo s s.size ++ List.replicate m 90

theorem padded_len (s : ByteArray) (n m : Nat) : (padded s n m).length = n + s.size + m := by simp [padded, bytesTo]; omega

theorem mem_bytesTo {s : ByteArray} {k : Nat} {x : Int} (h : x ∈ bytesTo s k) : ∃ j, j < k ∧ x = byteAt s j := by
  simp [bytesTo] at h
  obtain ⟨j, hj, e⟩ := h
  exact ⟨j, hj, e.symm⟩

theorem byteAt_nums {xs : List Int} (hb : ∀ x ∈ xs, 0 ≤ x ∧ x ≤ 255) {j : Nat} (hj : j < xs.length) : byteAt (strOfNums xs) j = xs[j] := by
  have q := hb _ (List.getElem_mem hj)
  unfold byteAt
  rw [dif_pos (by rw [strOfNums_size]; exact hj)]
  have e : (strOfNums xs)[j]'(by rw [strOfNums_size]; exact hj) = UInt8.ofNat (xs[j]).toNat := by
    simp [strOfNums, ByteArray.getElem_eq_getElem_data]
  rw [e, UInt8.toNat_ofNat']
  omega

theorem isNm_nums {xs : List Int} (hb : ∀ x ∈ xs, 0 ≤ x ∧ x ≤ 255) : IsNm (strOfNums xs) ↔ 1 ≤ xs.length ∧ xs.length ≤ 64 ∧ ∀ x ∈ xs, nameB x = true := by
  unfold IsNm NameTo
  rw [strOfNums_size]
  refine and_congr_right fun _ => and_congr_right fun _ => ?_
  constructor
  · intro h x hx
    obtain ⟨j, hj, e⟩ := List.getElem_of_mem hx
    rw [← e, ← byteAt_nums hb hj]
    exact h j hj
  · intro h j hj
    rw [byteAt_nums hb hj]
    exact h _ (List.getElem_mem hj)

theorem padded_bound (s : ByteArray) (n m : Nat) : ∀ x ∈ padded s n m, 0 ≤ x ∧ x ≤ 255 := by
  intro x hx
  simp only [padded, List.mem_append, List.mem_replicate] at hx
  rcases hx with (⟨_, rfl⟩ | h) | ⟨_, rfl⟩
  · omega
  · obtain ⟨j, hj, rfl⟩ := mem_bytesTo h
    exact ⟨byteAt_nonneg _ _, byteAt_le _ _⟩
  · omega

/-- THE PLAIN LAW. -/
theorem padded_law (s : ByteArray) (n m : Nat) : IsNm (strOfNums (padded s n m)) ↔ 1 ≤ n + s.size + m ∧ n + s.size + m ≤ 64 ∧ NameTo s s.size := by
  rw [isNm_nums (padded_bound s n m), padded_len]
  refine and_congr_right fun _ => and_congr_right fun _ => ?_
  constructor
  · intro h j hj
    refine h _ ?_
    simp only [padded, List.mem_append]
    exact .inl (.inr (by simp [bytesTo]; exact ⟨j, hj, rfl⟩))
  · intro h x hx
    simp only [padded, List.mem_append, List.mem_replicate] at hx
    rcases hx with (⟨_, rfl⟩ | h1) | ⟨_, rfl⟩
    · decide
    · obtain ⟨j, hj, rfl⟩ := mem_bytesTo h1
      exact h j hj
    · decide


set_option maxRecDepth 100000 in
set_option maxHeartbeats 3200000 in
theorem pad_mid (s : ByteArray) (n m T : Nat) (w : World) (hs : s.size ≤ 65536) (hn : n ≤ 4096) (hm : m ≤ 4096) (hT : T = n + s.size + m) :
    Calls Try.prog 4 #[.string s, .int .i64 n, .int .i64 m] w fun e w' => e = .returned (.bool true) ∧ Below w.heap.size w w' := by
  obtain ⟨i0, hi0, hz0, hz1, hz2⟩ := info_parts info5
  have hTI : (n : Int) + s.size + m = T := by omega
  have hTb : (T : Int) ≤ 73728 := by omega
  have hmk : ∀ w : World, (Instr.makeSlice 25 (.int .i64 0) (.int .i64 ((n : Int) + s.size + m))).run Try.prog w = .ok (.slice (some ⟨w.heap.size, 0, none⟩) 0 T) (w.alloc (.cells (madeCells #[.int .u8 0] T) 5)) := fun w => by
    have hr := run_make (P := Try.prog) w 25 5 i0 _ Try.underlying25 hi0 hz0 .i64 .i64 0 (T : Int) (by omega) (by omega) (by rw [hz2]; omega) (by omega)
    rw [hz1] at hr
    rw [hTI]
    simpa [Value.cells] using hr
  have h1' : (s.size : Int) ≤ 65536 := by omega
  have h2' : (n : Int) ≤ 4096 := by omega
  have h3' : (m : Int) ≤ 4096 := by omega
  have h4' : (0 : Int) ≤ (n : Int) := by omega
  have h5' : (0 : Int) ≤ (m : Int) := by omega
  have hb := get_byteAt s
  have HS : Hid (OwnB (w.alloc (.cells (madeCells #[.int .u8 0] T) 5)) w.heap.size w.heap.size T 0 (List.replicate 0 95) ∧ Below w.heap.size w (w.alloc (.cells (madeCells #[.int .u8 0] T) 5)) ∧ w.heap.size + 1 ≤ (w.alloc (.cells (madeCells #[.int .u8 0] T) 5)).heap.size) :=
    ⟨OwnB.start w w.heap.size T (Nat.le_refl _) (by unfold maxLen; omega), (Below.refl _ _).alloc (Nat.le_refl _) _, by simp⟩
  have HT : Hid (T = n + s.size + m) := hT
  clear hTI hT
  go_enter Try.func4, Try.ntmps4
  go_wp2_with fail
  refine (bytes3_yes s n m w (by omega)).mono ?_
  rintro e w ⟨rfl, rfl⟩
  go_wp2_with fail
  go_loopw [8, 9] (fun pb t wx => ∃ i : Nat, i ≤ n ∧ t = .int .i64 i ∧ pb = .slice (some ⟨w.heap.size, 0, none⟩) (i) T ∧
      OwnB wx w.heap.size w.heap.size T (i) (List.replicate i 95) ∧ Below w.heap.size w wx ∧ w.heap.size + 1 ≤ wx.heap.size) (fun _ t _ => n - (intOf t).toNat)
  case atStart => exact ⟨0, Nat.zero_le _, rfl, rfl, HS.out.1, HS.out.2⟩
  case round =>
    clear HS
    obtain ⟨i, hi, rfl, rfl, hP, hbel, hsz⟩ := hrel
    have HB : Hid (Below w.heap.size w wr ∧ w.heap.size + 1 ≤ wr.heap.size) := ⟨hbel, hsz⟩
    clear hbel hsz
    by_cases hlti : i < n
    · have hi1 : (i : Int) < n := by omega
      have hroom : i < T := by have := HT.out; omega
      have hroom2 : i + 1 ≤ T := by omega
      go_wp2_with (first | (at_builtin; refine wpList_append_fits _ rfl (.tmp 49) (.tmp 50) 25 rfl w.heap.size 5 i0 1 Try.underlying25 hi0 hz1 w.heap.size (i) T _ (by rfl) (by exact World.ownsRow.alloc hP _) ⟨wr.heap.size, 0, none⟩ 1 1 [.int .u8 95] (by rfl) (by rfl) (one_new _ _) (one_ok _) (by omega) ?_; intro w1 hown1 hgrow1))
      have R1 : OwnB w1 w.heap.size w.heap.size T (i + 1) (List.replicate (i + 1) 95) := by rw [List.replicate_succ']; exact OwnB.snoc hown1
      have R3 := below_app HB.out.1 HB.out.2 hgrow1 (Nat.le_refl _)
      go_roundw
      case rel => exact ⟨i + 1, by omega, by go_num, by rfl, R1, R3.1, R3.2⟩
      case measure => simp [intOf]; omega
    · have hij : i = n := by omega
      rw [hij] at hP
      have hij1 : decide ((i : Int) < n) = false := by simp; omega
      have HS : Hid (OwnB wr w.heap.size w.heap.size T (n + 0) (List.replicate n 95 ++ bytesTo s 0) ∧ Below w.heap.size w wr ∧ w.heap.size + 1 ≤ wr.heap.size) := ⟨by simpa [bytesTo] using hP, HB.out⟩
      clear hP HB
      rw [hij]
      clear hij hlti hi
      go_wp2_with fail
      go_loopw [8, 10] (fun pb t wx => ∃ i : Nat, i ≤ s.size ∧ t = .int .i64 i ∧ pb = .slice (some ⟨w.heap.size, 0, none⟩) (n + i) T ∧
          OwnB wx w.heap.size w.heap.size T (n + i) (List.replicate n 95 ++ bytesTo s i) ∧ Below w.heap.size w wx ∧ w.heap.size + 1 ≤ wx.heap.size) (fun _ t _ => s.size - (intOf t).toNat)
      case atStart => exact ⟨0, Nat.zero_le _, rfl, rfl, HS.out.1, HS.out.2⟩
      case round =>
        clear HS
        obtain ⟨i, hi, rfl, rfl, hP, hbel, hsz⟩ := hrel
        have HB : Hid (Below w.heap.size w wr ∧ w.heap.size + 1 ≤ wr.heap.size) := ⟨hbel, hsz⟩
        clear hbel hsz
        by_cases hlti : i < s.size
        · have hi1 : (i : Int) < s.size := by omega
          have hroom : n + i < T := by have := HT.out; omega
          have hroom2 : n + i + 1 ≤ T := by omega
          go_wp2_with (first | (at_builtin; refine wpList_append_fits _ rfl (.tmp 58) (.tmp 62) 25 rfl w.heap.size 5 i0 1 Try.underlying25 hi0 hz1 w.heap.size (n + i) T _ (by rfl) (by exact World.ownsRow.alloc hP _) ⟨wr.heap.size, 0, none⟩ 1 1 [.int .u8 (byteAt s i)] (by rfl) (by rfl) (one_new _ _) (one_ok _) (by omega) ?_; intro w1 hown1 hgrow1))
          have R1 : OwnB w1 w.heap.size w.heap.size T (n + i + 1) (List.replicate n 95 ++ bytesTo s (i + 1)) := by rw [bytesTo_succ, ← List.append_assoc]; exact OwnB.snoc hown1
          have R3 := below_app HB.out.1 HB.out.2 hgrow1 (Nat.le_refl _)
          go_roundw
          case rel => exact ⟨i + 1, by omega, by go_num, by rfl, R1, R3.1, R3.2⟩
          case measure => simp [intOf]; omega
        · have hij : i = s.size := by omega
          rw [hij] at hP
          have hij1 : decide ((i : Int) < s.size) = false := by simp; omega
          have HS : Hid (OwnB wr w.heap.size w.heap.size T (n + s.size + 0) (List.replicate n 95 ++ bytesTo s s.size ++ List.replicate 0 90) ∧ Below w.heap.size w wr ∧ w.heap.size + 1 ≤ wr.heap.size) := ⟨by simpa [bytesTo] using hP, HB.out⟩
          clear hP HB
          rw [hij]
          clear hij hlti hi
          go_wp2_with fail
          go_loopw [8, 11] (fun pb t wx => ∃ i : Nat, i ≤ m ∧ t = .int .i64 i ∧ pb = .slice (some ⟨w.heap.size, 0, none⟩) (n + s.size + i) T ∧
              OwnB wx w.heap.size w.heap.size T (n + s.size + i) (List.replicate n 95 ++ bytesTo s s.size ++ List.replicate i 90) ∧ Below w.heap.size w wx ∧ w.heap.size + 1 ≤ wx.heap.size) (fun _ t _ => m - (intOf t).toNat)
          case atStart => exact ⟨0, Nat.zero_le _, rfl, rfl, HS.out.1, HS.out.2⟩
          case round =>
            clear HS
            obtain ⟨i, hi, rfl, rfl, hP, hbel, hsz⟩ := hrel
            have HB : Hid (Below w.heap.size w wr ∧ w.heap.size + 1 ≤ wr.heap.size) := ⟨hbel, hsz⟩
            clear hbel hsz
            by_cases hlti : i < m
            · have hi1 : (i : Int) < m := by omega
              have hroom : n + s.size + i < T := by have := HT.out; omega
              have hroom2 : n + s.size + i + 1 ≤ T := by omega
              go_wp2_with (first | (at_builtin; refine wpList_append_fits _ rfl (.tmp 69) (.tmp 70) 25 rfl w.heap.size 5 i0 1 Try.underlying25 hi0 hz1 w.heap.size (n + s.size + i) T _ (by rfl) (by exact World.ownsRow.alloc hP _) ⟨wr.heap.size, 0, none⟩ 1 1 [.int .u8 90] (by rfl) (by rfl) (one_new _ _) (one_ok _) (by omega) ?_; intro w1 hown1 hgrow1))
              have R1 : OwnB w1 w.heap.size w.heap.size T (n + s.size + i + 1) (List.replicate n 95 ++ bytesTo s s.size ++ List.replicate (i + 1) 90) := by rw [List.replicate_succ', ← List.append_assoc]; exact OwnB.snoc hown1
              have R3 := below_app HB.out.1 HB.out.2 hgrow1 (Nat.le_refl _)
              go_roundw
              case rel => exact ⟨i + 1, by omega, by go_num, by rfl, R1, R3.1, R3.2⟩
              case measure => simp [intOf]; omega
            · have hij : i = m := by omega
              rw [hij] at hP
              have hij1 : decide ((i : Int) < m) = false := by simp; omega
              have HS : Hid (OwnB wr w.heap.size w.heap.size T (n + s.size + m) (padded s n m) ∧ Below w.heap.size w wr ∧ w.heap.size + 1 ≤ wr.heap.size) := ⟨hP, HB.out⟩
              clear hP HB
              rw [hij]
              clear hij hlti hi
              have hconv : (convert 25 9 (.slice (some ⟨w.heap.size, 0, none⟩) (n + s.size + m) T)).run Try.prog wr = .ok (.string (strOfNums (padded s n m))) wr :=
                run_convert_bytes_arg wr 25 5 Try.underlying25 Try.underlying5 w.heap.size 0 (n + s.size + m) T (padded s n m) (padded_len s n m) (fun i hi => by rw [Nat.zero_add]; exact HS.out.1.cell hi) 9 Try.underlying9
              have hu : (strOfNums (padded s n m)).size ≤ maxLen := by rw [strOfNums_size, padded_len]; unfold maxLen; omega
              have HU : Hid (IsNm (strOfNums (padded s n m)) ↔ 1 ≤ n + s.size + m ∧ n + s.size + m ≤ 64 ∧ NameTo s s.size) := padded_law s n m
              generalize strOfNums (padded s n m) = u at *
              clear hb
              by_cases h0 : s.size = 0
              · have hne : s.toList.isEmpty = true := by rw [size_zero h0, ByteArray.toList_eq]; rfl
                have HZ : Hid (s.size = 0) := h0
                have HN : Hid (NameTo s s.size) := fun j hj => absurd hj (by rw [h0]; exact Nat.not_lt_zero _)
                clear h0
                by_cases g1 : 1 ≤ (n : Int) + s.size + m
                · by_cases g2 : (n : Int) + s.size + m ≤ 64
                  · go_wp2_with fail
                    refine (isName_calls u _ hu).mono ?_
                    rintro e w3 ⟨⟨b, rfl, hbi⟩, rfl⟩
                    obtain rfl : b = true := by
                      rw [Bool.eq_iff_iff, hbi, HU.out]
                      exact iff_of_true ⟨by omega, by omega, HN.out⟩ rfl
                    clear hbi
                    go_wp2_with fail
                    go_ret
                    exact ⟨by first | rfl | (simp; done) | (simp; omega), HS.out.2.1⟩
                  · go_wp2_with fail
                    refine (isName_calls u _ hu).mono ?_
                    rintro e w3 ⟨⟨b, rfl, hbi⟩, rfl⟩
                    obtain rfl : b = false := by
                      rw [Bool.eq_iff_iff, hbi, HU.out]
                      exact iff_of_false (fun h => absurd h.2.1 (by omega)) Bool.false_ne_true
                    clear hbi
                    go_wp2_with fail
                    go_ret
                    exact ⟨by first | rfl | (simp; done) | (simp; omega), HS.out.2.1⟩
                · go_wp2_with fail
                  refine (isName_calls u _ hu).mono ?_
                  rintro e w3 ⟨⟨b, rfl, hbi⟩, rfl⟩
                  obtain rfl : b = false := by
                    rw [Bool.eq_iff_iff, hbi, HU.out]
                    exact iff_of_false (fun h => absurd h.1 (by omega)) Bool.false_ne_true
                  clear hbi
                  go_wp2_with fail
                  go_ret
                  exact ⟨by first | rfl | (simp; done) | (simp; omega), HS.out.2.1⟩
              · have hne : s.toList.isEmpty = false := toList_some h0
                go_wp2_with fail
                refine (isName_calls s _ (by unfold maxLen; omega)).mono ?_
                rintro e w2 ⟨⟨b1, rfl, hb1⟩, rfl⟩
                cases b1 with
                | false =>
                  have HN : Hid (¬ IsNm s) := fun h => Bool.false_ne_true (hb1.2 h)
                  clear hb1
                  go_wp2_with fail
                  refine (isName_calls u _ hu).mono ?_
                  rintro e w3 ⟨⟨b, rfl, hbi⟩, rfl⟩
                  obtain rfl : b = false := by
                    rw [Bool.eq_iff_iff, hbi, HU.out]
                    exact iff_of_false (fun h => HN.out ⟨by omega, by omega, h.2.2⟩) Bool.false_ne_true
                  clear hbi
                  go_wp2_with fail
                  go_ret
                  exact ⟨by first | rfl | (simp; done) | (simp; omega), HS.out.2.1⟩
                | true =>
                  have HN : Hid (IsNm s) := hb1.1 rfl
                  clear hb1
                  by_cases g2 : (n : Int) + s.size + m ≤ 64
                  · go_wp2_with fail
                    refine (isName_calls u _ hu).mono ?_
                    rintro e w3 ⟨⟨b, rfl, hbi⟩, rfl⟩
                    obtain rfl : b = true := by
                      rw [Bool.eq_iff_iff, hbi, HU.out]
                      exact iff_of_true ⟨by omega, by omega, HN.out.2.2⟩ rfl
                    clear hbi
                    go_wp2_with fail
                    go_ret
                    exact ⟨by first | rfl | (simp; done) | (simp; omega), HS.out.2.1⟩
                  · go_wp2_with fail
                    refine (isName_calls u _ hu).mono ?_
                    rintro e w3 ⟨⟨b, rfl, hbi⟩, rfl⟩
                    obtain rfl : b = false := by
                      rw [Bool.eq_iff_iff, hbi, HU.out]
                      exact iff_of_false (fun h => absurd h.2.1 (by omega)) Bool.false_ne_true
                    clear hbi
                    go_wp2_with fail
                    go_ret
                    exact ⟨by first | rfl | (simp; done) | (simp; omega), HS.out.2.1⟩
end Go.Proofs.Qxb6630768a

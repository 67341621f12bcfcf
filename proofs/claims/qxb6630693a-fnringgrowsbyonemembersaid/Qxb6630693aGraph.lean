import Derived.Test.Qxb6630693aProg
import Derived.Test.Qxb6630693aWorlds
import Derived.Test.Qxb6630693aLast
import Derived.WalkKit
import Derived.WalkLawsBesides
import Derived.Deep.OwnRows
import Derived.Deep.AppendLies
import Derived.KernelRfl
/- newGraph, undirected, over the ring's links: the walk. -/
namespace Go.Proofs.Qxb6630693a
open Go.RowKit

theorem info33 : (Try.prog.info? 33).map (fun i => (i.zero, i.size, i.bytes)) = some (some (.slice none 0 0), 1, 24) := by kernel_rfl
theorem info3 : (Try.prog.info? 3).map (fun i => (i.zero, i.size, i.bytes)) = some (some (.int .i64 0), 1, 8) := by kernel_rfl

/-- What the loads of one link's append read. -/
def RegS (gb pb lb n k m j : Nat) (v : Value) (w' : World) : Prop :=
  w'.cell? ⟨gb, 1, none⟩ = some (.slice (some ⟨pb, 0, none⟩) n n) ∧ w'.cell? ⟨lb, 0, none⟩ = some (.int .i64 k) ∧ w'.cell? ⟨lb, 1, none⟩ = some (.int .i64 m) ∧
  w'.cell? ⟨pb, j, none⟩ = some v ∧ w'.frozen? ⟨pb, j, none⟩ = false

theorem RegS.grown {gb pb lb n k m j : Nat} {v : Value} {w w' : World} {row : Option Nat} (h : RegS gb pb lb n k m j v w) (hg : w.grownBy w' row) (h1 : row ≠ some gb) (h2 : row ≠ some lb) (h3 : row ≠ some pb) : RegS gb pb lb n k m j v w' := by
  obtain ⟨s1, s2, s3, s4, s5⟩ := h
  exact ⟨hg.cell s1 (Ne.symm h1), hg.cell s2 (Ne.symm h2), hg.cell s3 (Ne.symm h2), hg.cell s4 (Ne.symm h3), by rw [hg.frozen_far _ (World.block_lt_of_cell? w _ s4) (Ne.symm h3)]; exact s5⟩

theorem Mid.regS {w W : World} {ib n L k m : Nat} {f : Nat → List Int} {V : Nat → Value} (h : Mid w ib n L k m W f V) {j : Nat} (hj : j < n) : RegS (w.heap.size + 1) w.heap.size L n k m j (V j) W :=
  ⟨h.st.graph_cell, by simp [World.cell?, h.link], by simp [World.cell?, h.link], h.st.peers.row.cell hj, h.st.peers.row.frozen j⟩

/-- sort.Ints at two numbers. -/
def SortPair : Prop := ∀ (g cap : Nat) (cur : Array Value) (a b : Int) (w : World), w.heap[g]? = some (.cells cur 3 (0, 0)) → cur.toList.take 2 = [.int .i64 a, .int .i64 b] →
  Calls Try.prog 11 #[.slice (some ⟨g, 0, none⟩) 2 cap] w fun e w' => e = .returned (.tuple #[]) ∧ w.grownBy w' (some g) ∧
    ∃ cur', w'.heap[g]? = some (.cells cur' 3 (0, 0)) ∧ cur'.size = cur.size ∧ cur'.toList.take 2 = [.int .i64 (if a ≤ b then a else b), .int .i64 (if a ≤ b then b else a)]

/-- The lists when the members below k have been sorted. -/
def half (n k j : Nat) : List Int := if j < k then [lo n j, hi n j] else linked n n j

set_option maxRecDepth 100000 in
set_option maxHeartbeats 1600000 in
theorem newGraph_calls (hsort : SortPair) (n ib lb : Nat) (hn3 : 3 ≤ n) (hn : n ≤ 65536) (w : World)
    (hl : ∀ i, i < n → w.cell? ⟨lb, i * 2, none⟩ = some (.int .i64 i) ∧ w.cell? ⟨lb, i * 2 + 1, none⟩ = some (.int .i64 ((i + 1) % n : Nat))) :
    Calls Try.prog 9 #[.slice (some ⟨ib, 0, none⟩) n n, .slice (some ⟨lb, 0, none⟩) n n, .bool false] w fun e w' => e = .returned (.pointer (some ⟨w.heap.size + 1, 0, none⟩)) ∧ ∃ V, St w ib n w' (half n n) V := by
  obtain ⟨i0, hi0, hz0, hz1, hz2⟩ := info_parts info3
  have hmk := run_make_row' (P := Try.prog) 28 33 (.slice none 0 0) 24 Try.underlying28 info33 rfl .i64 .i64 n (by omega) (by omega)
  have hn1 : (n : Int) ≤ 65536 := by omega
  have hn2 : (3 : Int) ≤ n := by omega
  have H : Hid (∀ i, i < n → w.cell? ⟨lb, i * 2, none⟩ = some (.int .i64 i) ∧ w.cell? ⟨lb, i * 2 + 1, none⟩ = some (.int .i64 ((i + 1) % n : Nat))) := hl
  clear hl
  go_enter Try.func9, Try.ntmps9
  go_wp2
  go_loopw [25] (fun i wr => ∃ (k : Nat) (V : Nat → Value), k ≤ n ∧ i = .int .i64 k ∧ St w ib n wr (linked n k) V) (fun i _ => n - (intOf i).toNat)
  case atStart => exact ⟨0, fun _ => .slice none 0 0, Nat.zero_le _, rfl, St.start w ib n⟩
  case round =>
    obtain ⟨k, V, hk, rfl, hst⟩ := hrel
    by_cases hlt : k < n
    · have hl1 := (H.out k hlt).1
      have hl2 := (H.out k hlt).2
      have hlb := World.block_lt_of_cell? w _ hl1
      obtain ⟨m, hm⟩ : ∃ m, m = (k + 1) % n := ⟨_, rfl⟩
      rw [← hm] at hl2
      have hmn : m < n := by rw [hm]; exact Nat.mod_lt _ (by omega)
      have HM : Hid (m = (k + 1) % n) := hm
      clear hm
      have e1 : wr.cell? ⟨lb, k * 2, none⟩ = some (.int .i64 k) := (hst.below.cell (by exact hlb)).trans hl1
      have e2 : wr.cell? ⟨lb, k * 2 + 1, none⟩ = some (.int .i64 m) := (hst.below.cell (by exact hlb)).trans hl2
      clear hl1 hl2
      go_wp2
      clear e1 e2
      have hmid := Mid.start hst k m
      have hk0 : (0 : Int) ≤ (k : Int) := Int.natCast_nonneg _
      have hk1 : (k : Int) < (n : Int) := by omega
      have hm0 : (0 : Int) ≤ (m : Int) := Int.natCast_nonneg _
      have hm1 : (m : Int) < (n : Int) := by omega
      have hll := fun j (hj : j < n) => linked_len n hn3 k hk j hj
      have hL := hst.size
      clear hst
      generalize (wr.alloc (.cells #[.int .i64 k, .int .i64 m] 39)) = W at hmid ⊢
      obtain ⟨ao, c, hv⟩ := hmid.st.peers.form (j := k) hlt
      have hreg := hmid.regS (j := k) hlt
      have hown := hmid.st.peers.own k hlt
      have hsz : w.heap.size + 2 ≤ W.heap.size := hmid.st.size
      have ne1 := hmid.st.peers.ne_low (j := k) hlt (b := w.heap.size + 1) (by omega)
      have ne2 := hmid.far k hlt
      have ne3 := hmid.st.peers.ne_low (j := k) hlt (b := w.heap.size) (by omega)
      obtain ⟨len, hlen⟩ : ∃ len, len = (linked n k k).length := ⟨_, rfl⟩
      rw [hv] at hreg hown ne1 ne2 ne3
      rw [← hlen] at hreg hown ne1 ne2 ne3
      have hlenb : len ≤ 3 := by rw [hlen]; have := hll k hlt; omega
      have HP : Hid (V k = .slice ao (linked n k k).length c ∧ len = (linked n k k).length) := ⟨hv, hlen⟩
      clear hv hlen
      have HMid := hmid.hid
      clear hmid
      refine wp_region_L (RegS (w.heap.size + 1) w.heap.size wr.heap.size n k m k (.slice ao len c)) 19 (by kernel_rfl) hreg (fun hHeld => ?_)
      refine wpAnyL_take (i := 0) (oi := { dst := some 29, op := .move (.tmp 7), type := 22, pos := _, after := _, guard := none }) (v := .pointer (some ⟨(w.heap.size + 1), 0, none⟩)) rfl (by kernel_rfl) (by kernel_rfl) (by kernel_rfl) (by kernel_rfl) (fun _ _ _ h => h) ⟨by rfl, ?_⟩ hHeld ?_
      · intro wS hSw; obtain ⟨s1, s2, s3, s4, s5⟩ := hSw; go_simp
      simp only [Act.put, List.setIfInBounds_toArray, List.set_cons_zero, List.set_cons_succ]
      refine wpAnyL_take (i := 1) (oi := { dst := some 30, op := .nilCheck (.tmp 29), type := 0, pos := _, after := _, guard := none }) (v := .pointer (some ⟨(w.heap.size + 1), 0, none⟩)) rfl (by kernel_rfl) (by kernel_rfl) (by kernel_rfl) (by kernel_rfl) (fun _ _ _ h => h) ⟨by rfl, ?_⟩ hHeld ?_
      · intro wS hSw; obtain ⟨s1, s2, s3, s4, s5⟩ := hSw; go_simp
      simp only [Act.put, List.setIfInBounds_toArray, List.set_cons_zero, List.set_cons_succ]
      refine wpAnyL_take (i := 2) (oi := { dst := some 31, op := .fieldAddr 30 (.tmp 30) 1, type := 0, pos := _, after := _, guard := none }) (v := .pointer (some ⟨(w.heap.size + 1), 1, none⟩)) rfl (by kernel_rfl) (by kernel_rfl) (by kernel_rfl) (by kernel_rfl) (fun _ _ _ h => h) ⟨by rfl, ?_⟩ hHeld ?_
      · intro wS hSw; obtain ⟨s1, s2, s3, s4, s5⟩ := hSw; go_simp
      simp only [Act.put, List.setIfInBounds_toArray, List.set_cons_zero, List.set_cons_succ]
      refine wpAnyL_take (i := 3) (oi := { dst := some 32, op := .load 28 (.tmp 31), type := 28, pos := _, after := _, guard := none }) (v := .slice (some ⟨w.heap.size, 0, none⟩) n n) rfl (by kernel_rfl) (by kernel_rfl) (by kernel_rfl) (by kernel_rfl) (fun _ _ _ h => h) ⟨by rfl, ?_⟩ hHeld ?_
      · intro wS hSw; obtain ⟨s1, s2, s3, s4, s5⟩ := hSw; go_simp
      simp only [Act.put, List.setIfInBounds_toArray, List.set_cons_zero, List.set_cons_succ]
      refine wpAnyL_take (i := 4) (oi := { dst := some 33, op := .indexAddr 39 (.tmp 9) (.const (.int .i64 0)), type := 0, pos := _, after := _, guard := none }) (v := .pointer (some ⟨wr.heap.size, 0, none⟩)) rfl (by kernel_rfl) (by kernel_rfl) (by kernel_rfl) (by kernel_rfl) (fun _ _ _ h => h) ⟨by rfl, ?_⟩ hHeld ?_
      · intro wS hSw; obtain ⟨s1, s2, s3, s4, s5⟩ := hSw; go_simp
      simp only [Act.put, List.setIfInBounds_toArray, List.set_cons_zero, List.set_cons_succ]
      refine wpAnyL_take (i := 5) (oi := { dst := some 34, op := .load 3 (.tmp 33), type := 3, pos := _, after := _, guard := none }) (v := .int .i64 k) rfl (by kernel_rfl) (by kernel_rfl) (by kernel_rfl) (by kernel_rfl) (fun _ _ _ h => h) ⟨by rfl, ?_⟩ hHeld ?_
      · intro wS hSw; obtain ⟨s1, s2, s3, s4, s5⟩ := hSw; go_simp
      simp only [Act.put, List.setIfInBounds_toArray, List.set_cons_zero, List.set_cons_succ]
      refine wpAnyL_take (i := 6) (oi := { dst := some 35, op := .move (.tmp 7), type := 22, pos := _, after := _, guard := none }) (v := .pointer (some ⟨(w.heap.size + 1), 0, none⟩)) rfl (by kernel_rfl) (by kernel_rfl) (by kernel_rfl) (by kernel_rfl) (fun _ _ _ h => h) ⟨by rfl, ?_⟩ hHeld ?_
      · intro wS hSw; obtain ⟨s1, s2, s3, s4, s5⟩ := hSw; go_simp
      simp only [Act.put, List.setIfInBounds_toArray, List.set_cons_zero, List.set_cons_succ]
      refine wpAnyL_take (i := 7) (oi := { dst := some 36, op := .nilCheck (.tmp 35), type := 0, pos := _, after := _, guard := none }) (v := .pointer (some ⟨(w.heap.size + 1), 0, none⟩)) rfl (by kernel_rfl) (by kernel_rfl) (by kernel_rfl) (by kernel_rfl) (fun _ _ _ h => h) ⟨by rfl, ?_⟩ hHeld ?_
      · intro wS hSw; obtain ⟨s1, s2, s3, s4, s5⟩ := hSw; go_simp
      simp only [Act.put, List.setIfInBounds_toArray, List.set_cons_zero, List.set_cons_succ]
      refine wpAnyL_take (i := 8) (oi := { dst := some 37, op := .fieldAddr 30 (.tmp 36) 1, type := 0, pos := _, after := _, guard := none }) (v := .pointer (some ⟨(w.heap.size + 1), 1, none⟩)) rfl (by kernel_rfl) (by kernel_rfl) (by kernel_rfl) (by kernel_rfl) (fun _ _ _ h => h) ⟨by rfl, ?_⟩ hHeld ?_
      · intro wS hSw; obtain ⟨s1, s2, s3, s4, s5⟩ := hSw; go_simp
      simp only [Act.put, List.setIfInBounds_toArray, List.set_cons_zero, List.set_cons_succ]
      refine wpAnyL_take (i := 9) (oi := { dst := some 38, op := .load 28 (.tmp 37), type := 28, pos := _, after := _, guard := none }) (v := .slice (some ⟨w.heap.size, 0, none⟩) n n) rfl (by kernel_rfl) (by kernel_rfl) (by kernel_rfl) (by kernel_rfl) (fun _ _ _ h => h) ⟨by rfl, ?_⟩ hHeld ?_
      · intro wS hSw; obtain ⟨s1, s2, s3, s4, s5⟩ := hSw; go_simp
      simp only [Act.put, List.setIfInBounds_toArray, List.set_cons_zero, List.set_cons_succ]
      refine wpAnyL_take (i := 10) (oi := { dst := some 39, op := .indexAddr 39 (.tmp 9) (.const (.int .i64 0)), type := 0, pos := _, after := _, guard := none }) (v := .pointer (some ⟨wr.heap.size, 0, none⟩)) rfl (by kernel_rfl) (by kernel_rfl) (by kernel_rfl) (by kernel_rfl) (fun _ _ _ h => h) ⟨by rfl, ?_⟩ hHeld ?_
      · intro wS hSw; obtain ⟨s1, s2, s3, s4, s5⟩ := hSw; go_simp
      simp only [Act.put, List.setIfInBounds_toArray, List.set_cons_zero, List.set_cons_succ]
      refine wpAnyL_take (i := 11) (oi := { dst := some 40, op := .load 3 (.tmp 39), type := 3, pos := _, after := _, guard := none }) (v := .int .i64 k) rfl (by kernel_rfl) (by kernel_rfl) (by kernel_rfl) (by kernel_rfl) (fun _ _ _ h => h) ⟨by rfl, ?_⟩ hHeld ?_
      · intro wS hSw; obtain ⟨s1, s2, s3, s4, s5⟩ := hSw; go_simp
      simp only [Act.put, List.setIfInBounds_toArray, List.set_cons_zero, List.set_cons_succ]
      refine wpAnyL_take (i := 12) (oi := { dst := some 41, op := .indexAddr 28 (.tmp 38) (.tmp 40), type := 0, pos := _, after := _, guard := none }) (v := .pointer (some ⟨w.heap.size, k, none⟩)) rfl (by kernel_rfl) (by kernel_rfl) (by kernel_rfl) (by kernel_rfl) (fun _ _ _ h => h) ⟨by rfl, ?_⟩ hHeld ?_
      · intro wS hSw; obtain ⟨s1, s2, s3, s4, s5⟩ := hSw; go_simp
      simp only [Act.put, List.setIfInBounds_toArray, List.set_cons_zero, List.set_cons_succ]
      refine wpAnyL_take (i := 13) (oi := { dst := some 42, op := .load 33 (.tmp 41), type := 33, pos := _, after := _, guard := none }) (v := .slice ao len c) rfl (by kernel_rfl) (by kernel_rfl) (by kernel_rfl) (by kernel_rfl) (fun _ _ _ h => h) ⟨by rfl, ?_⟩ hHeld ?_
      · intro wS hSw; obtain ⟨s1, s2, s3, s4, s5⟩ := hSw; go_simp
      simp only [Act.put, List.setIfInBounds_toArray, List.set_cons_zero, List.set_cons_succ]
      refine wpAnyL_take (i := 14) (oi := { dst := some 43, op := .indexAddr 39 (.tmp 9) (.const (.int .i64 1)), type := 0, pos := _, after := _, guard := none }) (v := .pointer (some ⟨wr.heap.size, 1, none⟩)) rfl (by kernel_rfl) (by kernel_rfl) (by kernel_rfl) (by kernel_rfl) (fun _ _ _ h => h) ⟨by rfl, ?_⟩ hHeld ?_
      · intro wS hSw; obtain ⟨s1, s2, s3, s4, s5⟩ := hSw; go_simp
      simp only [Act.put, List.setIfInBounds_toArray, List.set_cons_zero, List.set_cons_succ]
      refine wpAnyL_take (i := 15) (oi := { dst := some 44, op := .load 3 (.tmp 43), type := 3, pos := _, after := _, guard := none }) (v := .int .i64 m) rfl (by kernel_rfl) (by kernel_rfl) (by kernel_rfl) (by kernel_rfl) (fun _ _ _ h => h) ⟨by rfl, ?_⟩ hHeld ?_
      · intro wS hSw; obtain ⟨s1, s2, s3, s4, s5⟩ := hSw; go_simp
      simp only [Act.put, List.setIfInBounds_toArray, List.set_cons_zero, List.set_cons_succ]
      refine wpAnyL_one (i := 16) (o := { dst := some 45, op := .buildSlice 33 1 #[(0, .tmp 44)], type := 33, pos := _, after := _, guard := none }) (by kernel_rfl) rfl rfl (fun K hK => ?_)
      go_simp
      refine hK.out _ _ (hHeld.grown (W.drew.grownBy_alloc (.cells #[.int .i64 m] 3) none) (by simp) (by simp) (by simp)) (fun hHeld2 => ?_)
      clear hK K
      refine wpAnyL_one (i := 17) (o := { dst := some 46, op := .call { callee := .builtin .append, args := #[.tmp 42, .tmp 45], argTypes := #[33, 33] }, type := 33, pos := _, after := _, guard := none }) (by kernel_rfl) rfl rfl (fun K hK => ?_)
      refine wp_append_lies _ (.tmp 42) (.tmp 45) 33 rfl (w.heap.size + 2) 3 i0 _ 1 8 Try.underlying33 hi0 hz0 hz1 hz2 rfl (by omega) (.slice ao len c) len _ (by rfl) ((hown.alloc _).drew) ⟨W.heap.size, 0, none⟩ 1 1 [.int .i64 m] (by rfl) (by rfl) (World.news_of_block (cs := #[.int .i64 m]) (t := 3) (fr := (0, 0)) (heap_alloc_new W _)) (by simp [Value.oneCell']) (by omega) (by unfold maxLen; omega) (by omega) (by simp; omega) (W.heap.size + 1) (by simp) ?_
      intro gg cap w1 hown1 hgrow hat hlt1
      refine hK.out _ _ (hHeld2.grown hgrow ne1 ne2 ne3) (fun hHeld => ?_)
      clear hK K
      simp only [Act.put, List.setIfInBounds_toArray, List.set_cons_zero, List.set_cons_succ]
      refine wpAnyL_take (i := 18) (oi := { dst := some 47, op := .indexAddr 28 (.tmp 32) (.tmp 34), type := 0, pos := _, after := _, guard := none }) (v := .pointer (some ⟨w.heap.size, k, none⟩)) rfl (by kernel_rfl) (by kernel_rfl) (by kernel_rfl) (by kernel_rfl) (fun _ _ _ h => h) ⟨by rfl, ?_⟩ hHeld ?_
      · intro wS hSw; obtain ⟨s1, s2, s3, s4, s5⟩ := hSw; go_simp
      simp only [Act.put, List.setIfInBounds_toArray, List.set_cons_zero, List.set_cons_succ]
      have t4 := hHeld.2.2.2.1
      have t5 := hHeld.2.2.2.2
      refine wpAnyL_last (o := { dst := none, op := .store 33 (.tmp 47) (.tmp 46), type := 0, pos := _, after := _, guard := none }) (by kernel_rfl) rfl rfl (by kernel_rfl) (fun K hK => ?_)
      go_simp
      refine hK.out _ _ ?_
      clear hK K
      obtain ⟨V2, hmid2⟩ : ∃ V', Mid w ib n wr.heap.size k m (w1.setCell ⟨w.heap.size, k, none⟩ (.slice (some ⟨gg, 0, none⟩) (len + 1) cap)) (upd (linked n k) k m) V' := by
        obtain ⟨hv, hlen⟩ := HP.out
        rw [hlen] at hown1 ⊢
        rw [hlen, ← hv] at hgrow hat
        exact ⟨_, Mid.append HMid.out hlt hown1 hgrow hat⟩
      clear hown1 hgrow hat hlt1 hHeld2 hHeld hreg hown ne1 ne2 ne3 HP HMid t4 t5 hlenb hsz
      generalize (w1.setCell ⟨w.heap.size, k, none⟩ (.slice (some ⟨gg, 0, none⟩) (len + 1) cap)) = W5 at hmid2 ⊢
      go_wp2
      obtain ⟨ao, c, hv⟩ := hmid2.st.peers.form (j := m) hmn
      have hreg := hmid2.regS (j := m) hmn
      have hown := hmid2.st.peers.own m hmn
      have hsz : w.heap.size + 2 ≤ W5.heap.size := hmid2.st.size
      have ne1 := hmid2.st.peers.ne_low (j := m) hmn (b := w.heap.size + 1) (by omega)
      have ne2 := hmid2.far m hmn
      have ne3 := hmid2.st.peers.ne_low (j := m) hmn (b := w.heap.size) (by omega)
      obtain ⟨len, hlen⟩ : ∃ len, len = (upd (linked n k) k m m).length := ⟨_, rfl⟩
      rw [hv] at hreg hown ne1 ne2 ne3
      rw [← hlen] at hreg hown ne1 ne2 ne3
      have hlenb : len ≤ 3 := by rw [hlen]; have := hll m hmn; have := upd_len (linked n k) k m m; omega
      have HP : Hid (V2 m = .slice ao (upd (linked n k) k m m).length c ∧ len = (upd (linked n k) k m m).length) := ⟨hv, hlen⟩
      clear hv hlen
      have HMid := hmid2.hid
      clear hmid2
      refine wp_region_L (RegS (w.heap.size + 1) w.heap.size wr.heap.size n k m m (.slice ao len c)) 19 (by kernel_rfl) hreg (fun hHeld => ?_)
      refine wpAnyL_take (i := 0) (oi := { dst := some 50, op := .move (.tmp 7), type := 22, pos := _, after := _, guard := none }) (v := .pointer (some ⟨(w.heap.size + 1), 0, none⟩)) rfl (by kernel_rfl) (by kernel_rfl) (by kernel_rfl) (by kernel_rfl) (fun _ _ _ h => h) ⟨by rfl, ?_⟩ hHeld ?_
      · intro wS hSw; obtain ⟨s1, s2, s3, s4, s5⟩ := hSw; go_simp
      simp only [Act.put, List.setIfInBounds_toArray, List.set_cons_zero, List.set_cons_succ]
      refine wpAnyL_take (i := 1) (oi := { dst := some 51, op := .nilCheck (.tmp 50), type := 0, pos := _, after := _, guard := none }) (v := .pointer (some ⟨(w.heap.size + 1), 0, none⟩)) rfl (by kernel_rfl) (by kernel_rfl) (by kernel_rfl) (by kernel_rfl) (fun _ _ _ h => h) ⟨by rfl, ?_⟩ hHeld ?_
      · intro wS hSw; obtain ⟨s1, s2, s3, s4, s5⟩ := hSw; go_simp
      simp only [Act.put, List.setIfInBounds_toArray, List.set_cons_zero, List.set_cons_succ]
      refine wpAnyL_take (i := 2) (oi := { dst := some 52, op := .fieldAddr 30 (.tmp 51) 1, type := 0, pos := _, after := _, guard := none }) (v := .pointer (some ⟨(w.heap.size + 1), 1, none⟩)) rfl (by kernel_rfl) (by kernel_rfl) (by kernel_rfl) (by kernel_rfl) (fun _ _ _ h => h) ⟨by rfl, ?_⟩ hHeld ?_
      · intro wS hSw; obtain ⟨s1, s2, s3, s4, s5⟩ := hSw; go_simp
      simp only [Act.put, List.setIfInBounds_toArray, List.set_cons_zero, List.set_cons_succ]
      refine wpAnyL_take (i := 3) (oi := { dst := some 53, op := .load 28 (.tmp 52), type := 28, pos := _, after := _, guard := none }) (v := .slice (some ⟨w.heap.size, 0, none⟩) n n) rfl (by kernel_rfl) (by kernel_rfl) (by kernel_rfl) (by kernel_rfl) (fun _ _ _ h => h) ⟨by rfl, ?_⟩ hHeld ?_
      · intro wS hSw; obtain ⟨s1, s2, s3, s4, s5⟩ := hSw; go_simp
      simp only [Act.put, List.setIfInBounds_toArray, List.set_cons_zero, List.set_cons_succ]
      refine wpAnyL_take (i := 4) (oi := { dst := some 54, op := .indexAddr 39 (.tmp 9) (.const (.int .i64 1)), type := 0, pos := _, after := _, guard := none }) (v := .pointer (some ⟨wr.heap.size, 1, none⟩)) rfl (by kernel_rfl) (by kernel_rfl) (by kernel_rfl) (by kernel_rfl) (fun _ _ _ h => h) ⟨by rfl, ?_⟩ hHeld ?_
      · intro wS hSw; obtain ⟨s1, s2, s3, s4, s5⟩ := hSw; go_simp
      simp only [Act.put, List.setIfInBounds_toArray, List.set_cons_zero, List.set_cons_succ]
      refine wpAnyL_take (i := 5) (oi := { dst := some 55, op := .load 3 (.tmp 54), type := 3, pos := _, after := _, guard := none }) (v := .int .i64 m) rfl (by kernel_rfl) (by kernel_rfl) (by kernel_rfl) (by kernel_rfl) (fun _ _ _ h => h) ⟨by rfl, ?_⟩ hHeld ?_
      · intro wS hSw; obtain ⟨s1, s2, s3, s4, s5⟩ := hSw; go_simp
      simp only [Act.put, List.setIfInBounds_toArray, List.set_cons_zero, List.set_cons_succ]
      refine wpAnyL_take (i := 6) (oi := { dst := some 56, op := .move (.tmp 7), type := 22, pos := _, after := _, guard := none }) (v := .pointer (some ⟨(w.heap.size + 1), 0, none⟩)) rfl (by kernel_rfl) (by kernel_rfl) (by kernel_rfl) (by kernel_rfl) (fun _ _ _ h => h) ⟨by rfl, ?_⟩ hHeld ?_
      · intro wS hSw; obtain ⟨s1, s2, s3, s4, s5⟩ := hSw; go_simp
      simp only [Act.put, List.setIfInBounds_toArray, List.set_cons_zero, List.set_cons_succ]
      refine wpAnyL_take (i := 7) (oi := { dst := some 57, op := .nilCheck (.tmp 56), type := 0, pos := _, after := _, guard := none }) (v := .pointer (some ⟨(w.heap.size + 1), 0, none⟩)) rfl (by kernel_rfl) (by kernel_rfl) (by kernel_rfl) (by kernel_rfl) (fun _ _ _ h => h) ⟨by rfl, ?_⟩ hHeld ?_
      · intro wS hSw; obtain ⟨s1, s2, s3, s4, s5⟩ := hSw; go_simp
      simp only [Act.put, List.setIfInBounds_toArray, List.set_cons_zero, List.set_cons_succ]
      refine wpAnyL_take (i := 8) (oi := { dst := some 58, op := .fieldAddr 30 (.tmp 57) 1, type := 0, pos := _, after := _, guard := none }) (v := .pointer (some ⟨(w.heap.size + 1), 1, none⟩)) rfl (by kernel_rfl) (by kernel_rfl) (by kernel_rfl) (by kernel_rfl) (fun _ _ _ h => h) ⟨by rfl, ?_⟩ hHeld ?_
      · intro wS hSw; obtain ⟨s1, s2, s3, s4, s5⟩ := hSw; go_simp
      simp only [Act.put, List.setIfInBounds_toArray, List.set_cons_zero, List.set_cons_succ]
      refine wpAnyL_take (i := 9) (oi := { dst := some 59, op := .load 28 (.tmp 58), type := 28, pos := _, after := _, guard := none }) (v := .slice (some ⟨w.heap.size, 0, none⟩) n n) rfl (by kernel_rfl) (by kernel_rfl) (by kernel_rfl) (by kernel_rfl) (fun _ _ _ h => h) ⟨by rfl, ?_⟩ hHeld ?_
      · intro wS hSw; obtain ⟨s1, s2, s3, s4, s5⟩ := hSw; go_simp
      simp only [Act.put, List.setIfInBounds_toArray, List.set_cons_zero, List.set_cons_succ]
      refine wpAnyL_take (i := 10) (oi := { dst := some 60, op := .indexAddr 39 (.tmp 9) (.const (.int .i64 1)), type := 0, pos := _, after := _, guard := none }) (v := .pointer (some ⟨wr.heap.size, 1, none⟩)) rfl (by kernel_rfl) (by kernel_rfl) (by kernel_rfl) (by kernel_rfl) (fun _ _ _ h => h) ⟨by rfl, ?_⟩ hHeld ?_
      · intro wS hSw; obtain ⟨s1, s2, s3, s4, s5⟩ := hSw; go_simp
      simp only [Act.put, List.setIfInBounds_toArray, List.set_cons_zero, List.set_cons_succ]
      refine wpAnyL_take (i := 11) (oi := { dst := some 61, op := .load 3 (.tmp 60), type := 3, pos := _, after := _, guard := none }) (v := .int .i64 m) rfl (by kernel_rfl) (by kernel_rfl) (by kernel_rfl) (by kernel_rfl) (fun _ _ _ h => h) ⟨by rfl, ?_⟩ hHeld ?_
      · intro wS hSw; obtain ⟨s1, s2, s3, s4, s5⟩ := hSw; go_simp
      simp only [Act.put, List.setIfInBounds_toArray, List.set_cons_zero, List.set_cons_succ]
      refine wpAnyL_take (i := 12) (oi := { dst := some 62, op := .indexAddr 28 (.tmp 59) (.tmp 61), type := 0, pos := _, after := _, guard := none }) (v := .pointer (some ⟨w.heap.size, m, none⟩)) rfl (by kernel_rfl) (by kernel_rfl) (by kernel_rfl) (by kernel_rfl) (fun _ _ _ h => h) ⟨by rfl, ?_⟩ hHeld ?_
      · intro wS hSw; obtain ⟨s1, s2, s3, s4, s5⟩ := hSw; go_simp
      simp only [Act.put, List.setIfInBounds_toArray, List.set_cons_zero, List.set_cons_succ]
      refine wpAnyL_take (i := 13) (oi := { dst := some 63, op := .load 33 (.tmp 62), type := 33, pos := _, after := _, guard := none }) (v := .slice ao len c) rfl (by kernel_rfl) (by kernel_rfl) (by kernel_rfl) (by kernel_rfl) (fun _ _ _ h => h) ⟨by rfl, ?_⟩ hHeld ?_
      · intro wS hSw; obtain ⟨s1, s2, s3, s4, s5⟩ := hSw; go_simp
      simp only [Act.put, List.setIfInBounds_toArray, List.set_cons_zero, List.set_cons_succ]
      refine wpAnyL_take (i := 14) (oi := { dst := some 64, op := .indexAddr 39 (.tmp 9) (.const (.int .i64 0)), type := 0, pos := _, after := _, guard := none }) (v := .pointer (some ⟨wr.heap.size, 0, none⟩)) rfl (by kernel_rfl) (by kernel_rfl) (by kernel_rfl) (by kernel_rfl) (fun _ _ _ h => h) ⟨by rfl, ?_⟩ hHeld ?_
      · intro wS hSw; obtain ⟨s1, s2, s3, s4, s5⟩ := hSw; go_simp
      simp only [Act.put, List.setIfInBounds_toArray, List.set_cons_zero, List.set_cons_succ]
      refine wpAnyL_take (i := 15) (oi := { dst := some 65, op := .load 3 (.tmp 64), type := 3, pos := _, after := _, guard := none }) (v := .int .i64 k) rfl (by kernel_rfl) (by kernel_rfl) (by kernel_rfl) (by kernel_rfl) (fun _ _ _ h => h) ⟨by rfl, ?_⟩ hHeld ?_
      · intro wS hSw; obtain ⟨s1, s2, s3, s4, s5⟩ := hSw; go_simp
      simp only [Act.put, List.setIfInBounds_toArray, List.set_cons_zero, List.set_cons_succ]
      refine wpAnyL_one (i := 16) (o := { dst := some 66, op := .buildSlice 33 1 #[(0, .tmp 65)], type := 33, pos := _, after := _, guard := none }) (by kernel_rfl) rfl rfl (fun K hK => ?_)
      go_simp
      refine hK.out _ _ (hHeld.grown (W5.drew.grownBy_alloc (.cells #[.int .i64 k] 3) none) (by simp) (by simp) (by simp)) (fun hHeld2 => ?_)
      clear hK K
      refine wpAnyL_one (i := 17) (o := { dst := some 67, op := .call { callee := .builtin .append, args := #[.tmp 63, .tmp 66], argTypes := #[33, 33] }, type := 33, pos := _, after := _, guard := none }) (by kernel_rfl) rfl rfl (fun K hK => ?_)
      refine wp_append_lies _ (.tmp 63) (.tmp 66) 33 rfl (w.heap.size + 2) 3 i0 _ 1 8 Try.underlying33 hi0 hz0 hz1 hz2 rfl (by omega) (.slice ao len c) len _ (by rfl) ((hown.alloc _).drew) ⟨W5.heap.size, 0, none⟩ 1 1 [.int .i64 k] (by rfl) (by rfl) (World.news_of_block (cs := #[.int .i64 k]) (t := 3) (fr := (0, 0)) (heap_alloc_new W5 _)) (by simp [Value.oneCell']) (by omega) (by unfold maxLen; omega) (by omega) (by simp; omega) (W5.heap.size + 1) (by simp) ?_
      intro gg cap w1 hown1 hgrow hat hlt1
      refine hK.out _ _ (hHeld2.grown hgrow ne1 ne2 ne3) (fun hHeld => ?_)
      clear hK K
      simp only [Act.put, List.setIfInBounds_toArray, List.set_cons_zero, List.set_cons_succ]
      refine wpAnyL_take (i := 18) (oi := { dst := some 68, op := .indexAddr 28 (.tmp 53) (.tmp 55), type := 0, pos := _, after := _, guard := none }) (v := .pointer (some ⟨w.heap.size, m, none⟩)) rfl (by kernel_rfl) (by kernel_rfl) (by kernel_rfl) (by kernel_rfl) (fun _ _ _ h => h) ⟨by rfl, ?_⟩ hHeld ?_
      · intro wS hSw; obtain ⟨s1, s2, s3, s4, s5⟩ := hSw; go_simp
      simp only [Act.put, List.setIfInBounds_toArray, List.set_cons_zero, List.set_cons_succ]
      have t4 := hHeld.2.2.2.1
      have t5 := hHeld.2.2.2.2
      refine wpAnyL_last (o := { dst := none, op := .store 33 (.tmp 68) (.tmp 67), type := 0, pos := _, after := _, guard := none }) (by kernel_rfl) rfl rfl (by kernel_rfl) (fun K hK => ?_)
      go_simp
      refine hK.out _ _ ?_
      clear hK K
      obtain ⟨V3, hmid3⟩ : ∃ V', Mid w ib n wr.heap.size k m (w1.setCell ⟨w.heap.size, m, none⟩ (.slice (some ⟨gg, 0, none⟩) (len + 1) cap)) (upd (upd (linked n k) k m) m k) V' := by
        obtain ⟨hv, hlen⟩ := HP.out
        rw [hlen] at hown1 ⊢
        rw [hlen, ← hv] at hgrow hat
        exact ⟨_, Mid.append HMid.out hmn hown1 hgrow hat⟩
      clear hown1 hgrow hat hlt1 hHeld2 hHeld hreg hown ne1 ne2 ne3 HP HMid t4 t5 hlenb hsz
      generalize (w1.setCell ⟨w.heap.size, m, none⟩ (.slice (some ⟨gg, 0, none⟩) (len + 1) cap)) = W7 at hmid3 ⊢
      go_wp2
      go_roundw
      case rel =>
        have e : linked n (k + 1) = upd (upd (linked n k) k m) m k := by rw [HM.out]; rfl
        exact ⟨k + 1, V3, by omega, by go_num, by rw [e]; exact hmid3.st⟩
      case measure => simp [intOf]; omega
    · have hkn : k = n := by omega
      subst hkn
      have hgc1 := hst.graph_cell
      go_wp2
      clear hgc1
      go_loopw [75] (fun i wx => ∃ (q : Nat) (V : Nat → Value), q ≤ k ∧ i = .int .i64 q ∧ St w ib k wx (half k q) V) (fun i _ => k - (intOf i).toNat)
      case atStart => exact ⟨0, V, Nat.zero_le _, rfl, hst.congr (fun j _ => by simp [half])⟩
      case round =>
        clear hst
        obtain ⟨q, V2, hq, rfl, hst⟩ := hrel
        by_cases hlt : q < k
        · have hc := hst.peers.row.cell hlt
          obtain ⟨a, b, hab, hne, hna, hnb, elo, ehi⟩ := linked_all k hn3 q hlt
          have hown := hst.peers.own q hlt
          have hfq : half k q q = [a, b] := by unfold half; rw [if_neg (by omega)]; exact hab
          rw [hfq] at hown
          obtain ⟨g, cap, cur, hv, hgb, hcur, hcap, hcapm, hcs, htake⟩ := hown.2.resolve_left (fun e => by simp at e)
          simp only [List.length_cons, List.length_nil, List.map_cons, List.map_nil, Nat.zero_add, Nat.reduceAdd] at hv hcap htake
          rw [hv] at hc
          have HS : Hid (St w ib k wr (half k q) V2 ∧ V2 q = .slice (some ⟨g, 0, none⟩) 2 cap ∧ half k q q = [a, b] ∧ linked k k q = [a, b]) := ⟨hst, hv, hfq, hab⟩
          clear hst hv hfq hab hown
          have hsp := hsort g cap cur a b wr hcur (by simpa using htake)
          have HSP : Hid (Calls Try.prog 11 #[.slice (some ⟨g, 0, none⟩) 2 cap] wr fun e w' => e = .returned (.tuple #[]) ∧ wr.grownBy w' (some g) ∧ ∃ cur', w'.heap[g]? = some (.cells cur' 3 (0, 0)) ∧ cur'.size = cur.size ∧ cur'.toList.take 2 = [.int .i64 (if a ≤ b then a else b), .int .i64 (if a ≤ b then b else a)]) := hsp
          clear hsp
          go_wp2_with fail
          refine HSP.out.mono ?_
          rintro e ws ⟨rfl, hgs, cur', hcur', hcs', htake'⟩
          clear HSP
          rw [elo, ehi] at htake'
          obtain ⟨hst, hv, hfq, hab⟩ := HS.out
          have hst2 : St w ib k ws (half k (q + 1)) V2 := by
            refine hst.turned hlt (l := [lo k q, hi k q]) ?_ ?_ ?_ ?_
            · rw [hv]
              exact ⟨rfl, .inr ⟨g, cap, cur', rfl, hgb, hcur', hcap, hcapm, by rw [hcs']; exact hcs, by simpa using htake'⟩⟩
            · rw [hv]; exact hgs
            · unfold half; rw [if_pos (by omega)]
            · intro i hi; unfold half
              by_cases h1 : i < q
              · rw [if_pos h1, if_pos (by omega)]
              · rw [if_neg h1, if_neg (by omega)]
          have lne : lo k q ≠ hi k q := by have := lo_lt_hi k q hn3 hlt; omega
          have lna : lo k q ≠ q := by rw [← elo]; split <;> assumption
          have hnb' : hi k q ≠ q := by rw [← ehi]; split <;> assumption
          have c0 : ws.cell? ⟨g, 0, none⟩ = some (.int .i64 (lo k q)) := by
            have h := cell_of_row ws g 0 cur' 3 (0, 0) hcur'
            rw [h]
            have h2 : (cur'.toList.take 2)[0]? = some (.int .i64 (lo k q)) := by rw [htake']; rfl
            simpa using h2
          have c1 : ws.cell? ⟨g, 1, none⟩ = some (.int .i64 (hi k q)) := by
            have h := cell_of_row ws g 1 cur' 3 (0, 0) hcur'
            rw [h]
            have h2 : (cur'.toList.take 2)[1]? = some (.int .i64 (hi k q)) := by rw [htake']; rfl
            simpa using h2
          generalize hlo : lo k q = x0 at *
          generalize hhi : hi k q = x1 at *
          have hcap2 : (2 : Int) ≤ cap := by omega
          have a0 : cur'[0]? = some (.int .i64 x0) := by rw [cell_of_row ws g 0 cur' 3 (0, 0) hcur'] at c0; exact c0
          have a1 : cur'[1]? = some (.int .i64 x1) := by rw [cell_of_row ws g 1 cur' 3 (0, 0) hcur'] at c1; exact c1
          have hgl : g < ws.heap.size := (Array.getElem?_eq_some_iff.1 hcur').1
          have b0 : (x0 != (q : Int)) = true := by rw [bne_iff_ne]; exact lna
          have b1 : (x1 != (q : Int)) = true := by rw [bne_iff_ne]; exact hnb'
          have b2 : (x0 != x1) = true := by rw [bne_iff_ne]; exact lne
          have HK : Hid (St w ib k ws (half k (q + 1)) V2 ∧ V2 q = .slice (some ⟨g, 0, none⟩) 2 cap ∧ ws.heap[g]? = some (.cells cur' 3 (0, 0)) ∧ cur'[0]? = some (.int .i64 x0) ∧ cur'[1]? = some (.int .i64 x1)) := ⟨hst2, hv, hcur', a0, a1⟩
          clear hst2 hv hcur' a0 a1 hst HS hfq hab hgs hcs' htake' hlo hhi elo ehi hcur htake hcs hc lne lna hnb' hna hnb hne
          go_wp2_with fail
          go_loopw [86, 12] (fun i kv wt => ∃ r : Nat, r ≤ 2 ∧ i = .int .i64 r ∧ kv = .slice (some ⟨g, 0, none⟩) r cap ∧ Below ws.heap.size ws wt) (fun i _ _ => 2 - (intOf i).toNat)
          case atStart => exact ⟨0, by omega, rfl, rfl, Below.refl _ _⟩
          case round =>
            obtain ⟨r, hr, rfl, rfl, hbw⟩ := hrel
            have d0 := (hbw.cell (p := ⟨g, 0, none⟩) hgl).trans c0
            have d1 := (hbw.cell (p := ⟨g, 1, none⟩) hgl).trans c1
            obtain ⟨hst2, hv, hcur', a0, a1⟩ := HK.out
            have hcw := (hbw.block g hgl).trans hcur'
            clear hst2 hv hcur'
            have HCW : Hid (wr.heap[g]? = some (.cells cur' 3 (0, 0)) ∧ cur'[0]? = some (.int .i64 x0) ∧ cur'[1]? = some (.int .i64 x1)) := ⟨hcw, a0, a1⟩
            clear hcw a0 a1
            rcases (show r = 0 ∨ r = 1 ∨ r = 2 from by omega) with rfl | rfl | rfl
            · go_wp2_with (at_builtin; (refine wpList_append_same _ rfl (.tmp 108) (.tmp 110) 33 rfl 3 i0 Try.underlying33 hi0 hz1 g 0 cap 1 cur' ((Below.heap_alloc _ _ _ (Nat.lt_of_lt_of_le hgl hbw.size)).trans HCW.out.1) ⟨wr.heap.size, 0, none⟩ (.int .i64 x0) (by rfl) (by rfl) (by simp) rfl (by omega) HCW.out.2.1 ?_))
              go_roundw
              case rel => exact ⟨1, by omega, rfl, rfl, hbw.alloc hbw.size _⟩
              case measure => simp [intOf]
            · go_wp2_with (at_builtin; (refine wpList_append_same _ rfl (.tmp 108) (.tmp 110) 33 rfl 3 i0 Try.underlying33 hi0 hz1 g 1 cap 1 cur' ((Below.heap_alloc _ _ _ (Nat.lt_of_lt_of_le hgl hbw.size)).trans HCW.out.1) ⟨wr.heap.size, 0, none⟩ (.int .i64 x1) (by rfl) (by rfl) (by simp) rfl (by omega) HCW.out.2.2 ?_))
              go_roundw
              case rel => exact ⟨2, by omega, rfl, rfl, hbw.alloc hbw.size _⟩
              case measure => simp [intOf]
            · obtain ⟨hst2, hv, _⟩ := HK.out
              have hst3 := hst2.kept hbw
              have g1 := hst3.graph_cell
              have g2 := hst3.peers.row.cell hlt
              have g3 := hst3.peers.row.frozen q
              rw [hv] at g2
              have hst4 := hst3.stored hlt
              rw [hv] at hst4
              have HK4 : Hid (St w ib k (wr.setCell ⟨w.heap.size, q, none⟩ (.slice (some ⟨g, 0, none⟩) 2 cap)) (half k (q + 1)) V2) := hst4
              clear hst2 hv hst3 hst4
              go_wp2_with fail
              go_roundw
              case rel => exact ⟨q + 1, V2, by omega, by go_num, HK4.out⟩
              case measure => simp [intOf]; omega
        · have hqk : q = k := by omega
          subst hqk
          go_wp2
          go_ret
          exact ⟨rfl, V2, hst⟩
end Go.Proofs.Qxb6630693a

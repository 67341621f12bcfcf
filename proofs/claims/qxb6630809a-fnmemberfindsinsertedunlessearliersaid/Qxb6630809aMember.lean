import Derived.Test.Qxb6630809aConfig
import Derived.Laws.ResultCell
/- (Configuration).Member: the walk. -/
namespace Go.Proofs.Qxb6630809a
open Go.RowKit

/-- What the lookup finds, if anything. -/
def look (id : Int) (ms : List Mb) : Option Mb := ms.find? fun m => m.1 == id

def zeroM : Mb := (0, { data := #[] }, false)

theorem results_pair {P : Program} {fn : Func} {p u : Tmp} {ty : TypeId} (h : fn.results = #[.cell p ty, .tmp u]) (tmps : Array Value) (w : World) (g : Nat) (t : TypeId) (cs : Array Value) (fr : Nat × Nat) (d : TypeDesc)
    (hp : tmps.getD p undef = .pointer (some ⟨g, 0, none⟩)) (hg : w.heap[g]? = some (.cells cs t fr))
    (hu : P.underlying ty = some d) (hd : (match d with | .struct _ | .array _ _ => true | _ => false) = true) (hi : (P.info? ty).map (·.size) = some cs.size) :
    (results fn tmps).run P w = .ok (.tuple #[.agg cs, tmps.getD u undef]) w := by
  rw [results_cell_tmp h, hp]
  simp [asAddr, run_loadVar_row w g t ty cs fr d hg hu hd hi]

theorem look_snoc (id : Int) (a : List Mb) (m : Mb) (h : look id a = none) : look id (a ++ [m]) = if m.1 == id then some m else none := by
  unfold look at *
  rw [List.find?_append, h]
  by_cases e : m.1 == id <;> simp [e]

theorem look_prefix {id : Int} {a c : List Mb} {m : Mb} (h : look id a = some m) : look id (a ++ c) = some m := by
  unfold look at *
  rw [List.find?_append, h]
  rfl

set_option maxRecDepth 100000 in
set_option maxHeartbeats 1600000 in
theorem member_calls (x id : Int) (b k base : Nat) (ms : List Mb) (w : World) (hk : k ≤ 65537) (h : OwnM w base b k k ms) :
    Calls Try.prog 8 #[.agg #[.int .u64 x, .slice (some ⟨b, 0, none⟩) k k], .int .u16 id] w fun e w' =>
      e = .returned (.tuple #[mbV ((look id ms).getD zeroM), .bool (look id ms).isSome]) ∧ Below w.heap.size w w' := by
  have hk1 : (k : Int) ≤ 65537 := by omega
  have HO : Hid (OwnM w base b k k ms) := h
  clear h
  go_enter Try.func8, Try.ntmps8
  go_wp2_with fail
  have HS : Hid (((w.alloc (.cells #[.int .u64 x, .slice (some ⟨b, 0, none⟩) k k] 31)).alloc (.cells #[.int .u16 0, .string { data := #[] }, .bool false] 35)).heap[w.heap.size + 1]? = some (.cells #[.int .u16 0, .string { data := #[] }, .bool false] 35 (0, 0)) ∧ Below w.heap.size w ((w.alloc (.cells #[.int .u64 x, .slice (some ⟨b, 0, none⟩) k k] 31)).alloc (.cells #[.int .u16 0, .string { data := #[] }, .bool false] 35)) ∧ w.heap.size + 2 ≤ ((w.alloc (.cells #[.int .u64 x, .slice (some ⟨b, 0, none⟩) k k] 31)).alloc (.cells #[.int .u16 0, .string { data := #[] }, .bool false] 35)).heap.size) := by
    refine ⟨?_, ((Below.refl _ _).alloc (Nat.le_refl _) _).alloc (by simp) _, by simp⟩
    have := heap_alloc_new (w.alloc (.cells #[.int .u64 x, .slice (some ⟨b, 0, none⟩) k k] 31)) (.cells #[.int .u16 0, .string { data := #[] }, .bool false] 35)
    simpa using this
  generalize ((w.alloc (.cells #[.int .u64 x, .slice (some ⟨b, 0, none⟩) k k] 31)).alloc (.cells #[.int .u16 0, .string { data := #[] }, .bool false] 35)) = W at HS ⊢
  go_loopw [11] (fun t wx => ∃ j : Nat, j ≤ k ∧ t = .int .i64 j ∧ look id (ms.take j) = none ∧ wx.heap[w.heap.size + 1]? = some (.cells #[.int .u16 0, .string { data := #[] }, .bool false] 35 (0, 0)) ∧ Below w.heap.size w wx ∧ w.heap.size + 2 ≤ wx.heap.size) (fun t _ => k - (intOf t).toNat)
  case atStart => exact ⟨0, Nat.zero_le _, rfl, rfl, HS.out.1, HS.out.2.1, HS.out.2.2⟩
  case round =>
    clear HS
    obtain ⟨j, hj, rfl, hno, hC, hbel, hsz⟩ := hrel
    have hlen := HO.out.len
    have hblt := HO.out.lt.2
    by_cases hlt : j < k
    · have hjl : j < ms.length := by omega
      obtain ⟨d0, d1, d2⟩ := (HO.out.below hbel hblt).cells hjl
      have HT : Hid (look id (ms.take (j + 1)) = if ms[j].1 == id then some ms[j] else none) := by
        show look id (ms.take (j + 1)) = _
        rw [List.take_succ_eq_append_getElem hjl, look_snoc id _ _ hno]
      have HP : Hid (∀ m, look id (ms.take (j + 1)) = some m → look id ms = some m) := fun m hm => by
        have := look_prefix (c := ms.drop (j + 1)) hm
        rwa [List.take_append_drop] at this
      generalize ms[j] = m at *
      obtain ⟨y, s, v⟩ := m
      simp only at d0 d1 d2 HT
      have m0 : wr.cell? ⟨w.heap.size + 1, 0, none⟩ = some (.int .u16 0) := by simp [World.cell?, hC]
      have m1 : wr.cell? ⟨w.heap.size + 1, 1, none⟩ = some (.string { data := #[] }) := by simp [World.cell?, hC]
      have m2 : wr.cell? ⟨w.heap.size + 1, 2, none⟩ = some (.bool false) := by simp [World.cell?, hC]
      have f0 : wr.frozen? ⟨w.heap.size + 1, 0, none⟩ = false := by simp [World.frozen?, hC]
      have f1 : wr.frozen? ⟨w.heap.size + 1, 1, none⟩ = false := by simp [World.frozen?, hC]
      have f2 : wr.frozen? ⟨w.heap.size + 1, 2, none⟩ = false := by simp [World.frozen?, hC]
      have HB : Hid (wr.heap[w.heap.size + 1]? = some (.cells #[.int .u16 0, .string { data := #[] }, .bool false] 35 (0, 0)) ∧ Below w.heap.size w wr ∧ w.heap.size + 2 ≤ wr.heap.size) := ⟨hC, hbel, hsz⟩
      clear hC hbel hlen hno
      have hj1 : (j : Int) < k := by omega
      have hs1 : w.heap.size + 1 < wr.heap.size := by omega
      by_cases e : y = id
      · have t1 : (y == id) = true := by rw [beq_iff_eq]; exact e
        go_wp2_with fail
        have hl : look id ms = some (id, s, v) := HP.out _ (by rw [HT.out, if_pos t1, e])
        have hg0 := heap_setCell_same _ (w.heap.size + 1) 2 _ 35 (.bool v) (heap_setCell_same _ (w.heap.size + 1) 1 _ 35 (.string s) (heap_setCell_same wr (w.heap.size + 1) 0 _ 35 (.int .u16 id) HB.out.1))
        have hg := (Below.heap_alloc _ (.cells #[.int .u16 id, .string s, .bool v] 35) (w.heap.size + 1) (by simp only [World.size_setCell]; exact hs1)).trans hg0
        refine bodyPost_ret (results_pair (P := Try.prog) Try.results8 _ _ (w.heap.size + 1) 35 #[.int .u16 id, .string s, .bool v] (0, 0) _ rfl hg Try.underlying35 rfl (by kernel_rfl)) rfl ?_
        refine ⟨by rw [hl]; rfl, ?_⟩
        refine Below.alloc ?_ (by simp only [World.size_setCell]; omega) _
        exact ((HB.out.2.1.setCell (p := ⟨w.heap.size + 1, 0, none⟩) (Nat.le_succ _) _).setCell (p := ⟨w.heap.size + 1, 1, none⟩) (Nat.le_succ _) _).setCell (p := ⟨w.heap.size + 1, 2, none⟩) (Nat.le_succ _) _
      · have t1 : (y == id) = false := by rw [beq_eq_false_iff_ne]; exact e
        go_wp2_with fail
        go_roundw
        case rel => exact ⟨j + 1, by omega, by go_num, by rw [HT.out, if_neg (by rw [t1]; exact Bool.false_ne_true)], (Below.heap_alloc _ _ _ hs1).trans HB.out.1, HB.out.2.1.alloc (by omega) _, by simp; omega⟩
        case measure => simp [intOf]; omega
    · have hjk : j = k := by omega
      rw [hjk, List.take_of_length_le (by omega)] at hno
      have hj1 : decide ((j : Int) < (k : Int)) = false := by simp; omega
      have m0 : wr.cell? ⟨w.heap.size + 1, 0, none⟩ = some (.int .u16 0) := by simp [World.cell?, hC]
      have m1 : wr.cell? ⟨w.heap.size + 1, 1, none⟩ = some (.string { data := #[] }) := by simp [World.cell?, hC]
      have m2 : wr.cell? ⟨w.heap.size + 1, 2, none⟩ = some (.bool false) := by simp [World.cell?, hC]
      have f0 : wr.frozen? ⟨w.heap.size + 1, 0, none⟩ = false := by simp [World.frozen?, hC]
      have f1 : wr.frozen? ⟨w.heap.size + 1, 1, none⟩ = false := by simp [World.frozen?, hC]
      have f2 : wr.frozen? ⟨w.heap.size + 1, 2, none⟩ = false := by simp [World.frozen?, hC]
      have HB : Hid (wr.heap[w.heap.size + 1]? = some (.cells #[.int .u16 0, .string { data := #[] }, .bool false] 35 (0, 0)) ∧ Below w.heap.size w wr ∧ look id ms = none) := ⟨hC, hbel, hno⟩
      clear hC hbel hlen hno
      go_wp2_with fail
      have hg := heap_setCell_same _ (w.heap.size + 1) 2 _ 35 (.bool false) (heap_setCell_same _ (w.heap.size + 1) 1 _ 35 (.string { data := #[] }) (heap_setCell_same wr (w.heap.size + 1) 0 _ 35 (.int .u16 0) HB.out.1))
      refine bodyPost_ret (results_pair (P := Try.prog) Try.results8 _ _ (w.heap.size + 1) 35 #[.int .u16 0, .string { data := #[] }, .bool false] (0, 0) _ rfl hg Try.underlying35 rfl (by kernel_rfl)) rfl ?_
      refine ⟨by rw [HB.out.2.2]; rfl, ?_⟩
      exact ((HB.out.2.1.setCell (p := ⟨w.heap.size + 1, 0, none⟩) (Nat.le_succ _) _).setCell (p := ⟨w.heap.size + 1, 1, none⟩) (Nat.le_succ _) _).setCell (p := ⟨w.heap.size + 1, 2, none⟩) (Nat.le_succ _) _
end Go.Proofs.Qxb6630809a

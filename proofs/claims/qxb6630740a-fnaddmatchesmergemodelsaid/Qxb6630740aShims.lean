import Derived.Test.Qxb6630740aAdd
import Derived.Deep.OwnRows
/- ZZnewSet, ZZfirsts, ZZlasts, ZZsource: the walks. -/
namespace Go.Proofs.Qxb6630740a
open Go.RowKit

theorem info23 : (Try.prog.info? 23).map (fun i => (i.zero, i.size, i.bytes)) = some (some (.int .u64 0), 1, 8) := by kernel_rfl

/-- The slice at a holds the numbers zs, in a block below B. -/
def RowIn (w : World) (B : Nat) (a : Option Addr) (zs : List Int) : Prop :=
  zs ≠ [] → ∃ b off, a = some ⟨b, off, none⟩ ∧ b < B ∧ ∀ i, i < zs.length → w.cell? ⟨b, off + i, none⟩ = some (.int .u64 (zs.getD i 0))

theorem RowIn.kept {w w' : World} {B : Nat} {a : Option Addr} {zs : List Int} (h : RowIn w B a zs) (hb : Below B w w') : RowIn w' B a zs := fun hne => by
  obtain ⟨b, off, e, hlt, hc⟩ := h hne
  exact ⟨b, off, e, hlt, fun i hi => (hb.cell (by exact hlt)).trans (hc i hi)⟩

theorem RowIn.mono {w : World} {B B' : Nat} {a : Option Addr} {zs : List Int} (h : RowIn w B a zs) (hB : B ≤ B') : RowIn w B' a zs := fun hne => by
  obtain ⟨b, off, e, hlt, hc⟩ := h hne
  exact ⟨b, off, e, by omega, hc⟩

theorem RowIn.at {w : World} {B : Nat} {a : Option Addr} {zs : List Int} (h : RowIn w B a zs) {k : Nat} (hk : k < zs.length) : ∃ b off, a = some ⟨b, off, none⟩ ∧ b < B ∧ ∀ i, i < zs.length → w.cell? ⟨b, off + i, none⟩ = some (.int .u64 (zs.getD i 0)) :=
  h (by intro e; subst e; simp at hk)

theorem RowIn.of_row {w : World} {b n : Nat} {zs : List Int} (h : w.rowIs b 23 n (fun i => .int .u64 (zs.getD i 0))) (hn : zs.length ≤ n) : RowIn w w.heap.size (some ⟨b, 0, none⟩) zs := fun _ =>
  ⟨b, 0, rfl, h.lt, fun i hi => by rw [Nat.zero_add]; exact h.cell (by omega)⟩

/-- Behind k rounds. -/
def outAt (zs : List Int) (k i : Nat) : Value := if i < k then .int .u64 (zs.getD i 0) else .int .u64 0

theorem outAt_step {w : World} {b n k : Nat} {zs : List Int} (h : w.rowIs b 23 n (outAt zs k)) : (w.setCell ⟨b, k, none⟩ (.int .u64 (zs.getD k 0))).rowIs b 23 n (outAt zs (k + 1)) :=
  (h.set k _).congr fun i _ => by
    unfold outAt
    by_cases e : i = k
    · subst e; simp
    · by_cases h2 : i < k
      · rw [if_neg e, if_pos h2, if_pos (by omega)]
      · rw [if_neg e, if_neg h2, if_neg (by omega)]

theorem source_calls (base sb : Nat) (src : ByteArray) (g cap : Nat) (ivs : List (Int × Int)) (w : World) (h : SetAt w base sb src g cap ivs) :
    Calls Try.prog 12 #[.pointer (some ⟨sb, 0, none⟩)] w fun e w' => e = .returned (.string src) ∧ w' = w := by
  have hs := h.source
  go_enter Try.func12, Try.ntmps12
  go_wp2
  go_ret
  exact ⟨rfl, rfl⟩

set_option maxHeartbeats 400000 in
theorem firsts_calls (base sb : Nat) (src : ByteArray) (g cap : Nat) (ivs : List (Int × Int)) (w : World) (h : SetAt w base sb src g cap ivs) (hlen : ivs.length ≤ 1048577) :
    Calls Try.prog 9 #[.pointer (some ⟨sb, 0, none⟩)] w fun e w' => e = .returned (.slice (some ⟨w.heap.size, 0, none⟩) ivs.length ivs.length) ∧ w'.rowIs w.heap.size 23 ivs.length (outAt (ivs.map (·.1)) ivs.length) ∧ w'.heap.size = w.heap.size + 1 ∧ Below w.heap.size w w' := by
  have hmk := run_make_row' (P := Try.prog) 22 23 (.int .u64 0) 8 Try.underlying22 info23 rfl .i64 .i64 ivs.length (by omega) (by omega)
  have hh := h.head
  have hn1 : (ivs.length : Int) ≤ 1048577 := by omega
  have hh' : ∀ o, (w.alloc o).cell? ⟨sb, 1, none⟩ = some (.slice (some ⟨g, 0, none⟩) ivs.length cap) := fun o => by rw [World.cell?_alloc_lt _ _ _ (by exact h.lt.1)]; exact hh
  go_enter Try.func9, Try.ntmps9
  go_wp2
  clear hh'
  go_loopw [4] (fun i wr => ∃ k : Nat, k ≤ ivs.length ∧ i = .int .i64 k ∧ wr.rowIs w.heap.size 23 ivs.length (outAt (ivs.map (·.1)) k) ∧ wr.heap.size = w.heap.size + 1 ∧ Below w.heap.size w wr) (fun i _ => ivs.length - (intOf i).toNat)
  case atStart => exact ⟨0, Nat.zero_le _, rfl, (World.rowIs_made w _ _ 23).congr (fun i _ => by simp [outAt]), by simp, (Below.refl _ _).alloc (Nat.le_refl _) _⟩
  case round =>
    obtain ⟨k, hk, rfl, hrow, hsz, hb⟩ := hrel
    have hset := h.kept hb h.lt.1 h.lt.2
    have c0 := hset.head
    by_cases hlt : k < ivs.length
    · have c1 := hset.fst hlt
      have c2 := hrow.cell hlt
      have c3 := hrow.frozen k
      have e : (ivs.map (·.1)).getD k 0 = (ivs.getD k (0, 0)).1 := by simp [List.getD, hlt]
      have hst := outAt_step hrow
      rw [e] at hst
      have HST : Hid ((wr.setCell ⟨w.heap.size, k, none⟩ (.int .u64 (ivs.getD k (0, 0)).1)).rowIs w.heap.size 23 ivs.length (outAt (ivs.map (·.1)) (k + 1))) := hst
      clear hst e hset
      generalize (ivs.getD k (0, 0)).1 = x at *
      go_wp2
      go_roundw
      case rel => exact ⟨k + 1, by omega, by go_num, HST.out, by simpa using hsz, hb.setCell (Nat.le_refl _) _⟩
      case measure => simp [intOf]; omega
    · go_wp2
      go_ret
      have : k = ivs.length := by omega
      subst this
      exact ⟨rfl, hrow, hsz, hb⟩

set_option maxHeartbeats 400000 in
theorem lasts_calls (base sb : Nat) (src : ByteArray) (g cap : Nat) (ivs : List (Int × Int)) (w : World) (h : SetAt w base sb src g cap ivs) (hlen : ivs.length ≤ 1048577) :
    Calls Try.prog 10 #[.pointer (some ⟨sb, 0, none⟩)] w fun e w' => e = .returned (.slice (some ⟨w.heap.size, 0, none⟩) ivs.length ivs.length) ∧ w'.rowIs w.heap.size 23 ivs.length (outAt (ivs.map (·.2)) ivs.length) ∧ w'.heap.size = w.heap.size + 1 ∧ Below w.heap.size w w' := by
  have hmk := run_make_row' (P := Try.prog) 22 23 (.int .u64 0) 8 Try.underlying22 info23 rfl .i64 .i64 ivs.length (by omega) (by omega)
  have hh := h.head
  have hn1 : (ivs.length : Int) ≤ 1048577 := by omega
  have hh' : ∀ o, (w.alloc o).cell? ⟨sb, 1, none⟩ = some (.slice (some ⟨g, 0, none⟩) ivs.length cap) := fun o => by rw [World.cell?_alloc_lt _ _ _ (by exact h.lt.1)]; exact hh
  go_enter Try.func10, Try.ntmps10
  go_wp2
  clear hh'
  go_loopw [4] (fun i wr => ∃ k : Nat, k ≤ ivs.length ∧ i = .int .i64 k ∧ wr.rowIs w.heap.size 23 ivs.length (outAt (ivs.map (·.2)) k) ∧ wr.heap.size = w.heap.size + 1 ∧ Below w.heap.size w wr) (fun i _ => ivs.length - (intOf i).toNat)
  case atStart => exact ⟨0, Nat.zero_le _, rfl, (World.rowIs_made w _ _ 23).congr (fun i _ => by simp [outAt]), by simp, (Below.refl _ _).alloc (Nat.le_refl _) _⟩
  case round =>
    obtain ⟨k, hk, rfl, hrow, hsz, hb⟩ := hrel
    have hset := h.kept hb h.lt.1 h.lt.2
    have c0 := hset.head
    by_cases hlt : k < ivs.length
    · have c1 := hset.snd hlt
      have c2 := hrow.cell hlt
      have c3 := hrow.frozen k
      have e : (ivs.map (·.2)).getD k 0 = (ivs.getD k (0, 0)).2 := by simp [List.getD, hlt]
      have hst := outAt_step hrow
      rw [e] at hst
      have HST : Hid ((wr.setCell ⟨w.heap.size, k, none⟩ (.int .u64 (ivs.getD k (0, 0)).2)).rowIs w.heap.size 23 ivs.length (outAt (ivs.map (·.2)) (k + 1))) := hst
      clear hst e hset
      generalize (ivs.getD k (0, 0)).2 = x at *
      go_wp2
      go_roundw
      case rel => exact ⟨k + 1, by omega, by go_num, HST.out, by simpa using hsz, hb.setCell (Nat.le_refl _) _⟩
      case measure => simp [intOf]; omega
    · go_wp2
      go_ret
      have : k = ivs.length := by omega
      subst this
      exact ⟨rfl, hrow, hsz, hb⟩

end Go.Proofs.Qxb6630740a

import Derived.Test.Qxb6630809aBase
import Derived.Deep.Strs
import Derived.OpenShut
/- The slices that came in, opened. -/
namespace Go.Proofs.Qxb6630809a
open Go.ChangeShapes Go.WideShapes Go.ChangeAt Go.RowKit

theorem own : ownKnob Try.prog.godebug = none := by kernel_rfl
theorem laidOut : laidOutB Try.prog = true := by kernel_rfl

theorem row_of {w : World} {a : Addr} {n : Nat} {V : Nat → Value} (h : ∀ i, i < n → w.cell? (a.add i) = some (V i)) : RowAt w w.heap.size (some a) n V := fun hp => by
  obtain ⟨b, off, spot⟩ := a
  have hspot : spot = none := by simpa [Addr.add] using World.cell?_spot (h 0 hp)
  subst hspot
  have hc : ∀ i, i < n → w.cell? ⟨b, off + i, none⟩ = some (V i) := fun j hj => by rw [← Go.WideShapes.add_plain]; exact h j hj
  exact ⟨b, off, rfl, World.block_lt_of_cell? w _ (hc 0 hp), hc⟩

section
variable {H : Type} {enc : TypeId × Value → H} {w : World} {fuel : Nat} {a : Option Addr} {n c : Nat} {x : DataW H × List MemPlace}

theorem row_ints (hf : DataW.trod enc Try.prog w 0 (fun _ => true) true fuel 23 (Value.slice a n c).cells.toList = some x) : ∃ I : Nat → Int, RowAt w w.heap.size a n (fun i => .int .u16 (I i)) := by
  rcases open_ints Try.underlying23 Try.underlying26 (by kernel_rfl) hf with ⟨hcs, _⟩ | ⟨y, l, cc, zs, hcs, _, hl, hm, hz, _, hcell, hwz⟩
  · simp [Value.cells] at hcs
    obtain ⟨rfl, rfl, rfl⟩ := hcs
    exact ⟨fun _ => 0, fun h => absurd h (Nat.lt_irrefl _)⟩
  · simp [Value.cells] at hcs
    obtain ⟨rfl, rfl, rfl⟩ := hcs
    simp at hz
    exact ⟨fun i => zs.getD i 0, row_of fun i hi => hcell i (by omega)⟩

theorem row_strs (hf : DataW.trod enc Try.prog w 0 (fun _ => true) true fuel 24 (Value.slice a n c).cells.toList = some x) : ∃ S : Nat → ByteArray, RowAt w w.heap.size a n (fun i => .string (S i)) := by
  rcases Go.Deep.open_strs Try.underlying24 Try.underlying9 (by kernel_rfl) hf with ⟨hcs, _⟩ | ⟨y, l, cc, m, Sx, hcs, _, hl, hm, hmm, _, hcell⟩
  · simp [Value.cells] at hcs
    obtain ⟨rfl, rfl, rfl⟩ := hcs
    exact ⟨fun _ => { data := #[] }, fun h => absurd h (Nat.lt_irrefl _)⟩
  · simp [Value.cells] at hcs
    obtain ⟨rfl, rfl, rfl⟩ := hcs
    simp at hmm
    exact ⟨Sx, row_of fun i hi => (hcell i (by omega)).1⟩

theorem row_bools (hf : DataW.trod enc Try.prog w 0 (fun _ => true) true fuel 25 (Value.slice a n c).cells.toList = some x) : ∃ V : Nat → Bool, RowAt w w.heap.size a n (fun i => .bool (V i)) := by
  rcases Go.Deep.open_slice1 Try.underlying25 (by kernel_rfl) hf with ⟨hcs, _⟩ | ⟨y, l, cc, m, f, Vx, D, Pl, hcs, _, hl, hm, hmm, _, hcell⟩
  · simp [Value.cells] at hcs
    obtain ⟨rfl, rfl, rfl⟩ := hcs
    exact ⟨fun _ => false, fun h => absurd h (Nat.lt_irrefl _)⟩
  · simp [Value.cells] at hcs
    obtain ⟨rfl, rfl, rfl⟩ := hcs
    simp at hmm
    refine ⟨fun i => match Vx i with | .bool b => b | _ => false, row_of fun i hi => ?_⟩
    obtain ⟨h1, h2⟩ := hcell i (by omega)
    obtain ⟨b, hb, _⟩ := DataW.trod_bool Try.underlying4 h2
    have hv : Vx i = .bool b := by simpa using hb
    rw [h1]; simp only [hv]
end
end Go.Proofs.Qxb6630809a

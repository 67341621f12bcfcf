import Derived.Test.Qxb6630740aPlain
import Derived.WalkKit
import Derived.Deep.AppendLies
/- The set in memory: the struct's block, and the intervals' row. No program in sight. -/
namespace Go.Proofs.Qxb6630740a
open Go.RowKit

/-- The intervals' cells. -/
def flat : List (Int × Int) → List Value
  | [] => []
  | (f, l) :: t => .int .u64 f :: .int .u64 l :: flat t

theorem flat_length : ∀ (ivs : List (Int × Int)), (flat ivs).length = ivs.length * 2
  | [] => rfl
  | (_, _) :: t => by simp only [flat, List.length_cons, flat_length t]; omega

theorem flat_append : ∀ (a b : List (Int × Int)), flat (a ++ b) = flat a ++ flat b
  | [], _ => rfl
  | (_, _) :: t, b => by simp only [List.cons_append, flat, flat_append t b]

theorem flat_one (ivs : List (Int × Int)) : ∀ u ∈ flat ivs, u.oneCell' = true := by
  induction ivs with
  | nil => intro u hu; cases hu
  | cons x t ih =>
    obtain ⟨f, l⟩ := x
    intro u hu
    simp only [flat, List.mem_cons] at hu
    rcases hu with rfl | rfl | hu
    · rfl
    · rfl
    · exact ih u hu

theorem flat_fst : ∀ (ivs : List (Int × Int)) (i : Nat), i < ivs.length → (flat ivs)[i * 2]? = some (.int .u64 (ivs.getD i (0, 0)).1)
  | [], _, h => by simp at h
  | (_, _) :: _, 0, _ => rfl
  | (_, _) :: t, i + 1, h => by
    have := flat_fst t i (by simpa using h)
    rw [show (i + 1) * 2 = i * 2 + 1 + 1 from by omega]
    simpa [flat] using this

theorem flat_snd : ∀ (ivs : List (Int × Int)) (i : Nat), i < ivs.length → (flat ivs)[i * 2 + 1]? = some (.int .u64 (ivs.getD i (0, 0)).2)
  | [], _, h => by simp at h
  | (_, _) :: _, 0, _ => rfl
  | (_, _) :: t, i + 1, h => by
    have := flat_snd t i (by simpa using h)
    rw [show (i + 1) * 2 + 1 = i * 2 + 1 + 1 + 1 from by omega]
    simpa [flat] using this

/-- The struct at block sb: its source, its intervals in block g. -/
structure SetAt (w : World) (base sb : Nat) (src : ByteArray) (g cap : Nat) (ivs : List (Int × Int)) : Prop where
  obj : w.heap[sb]? = some (.cells #[.string src, .slice (some ⟨g, 0, none⟩) ivs.length cap] 40 (0, 0))
  own : w.ownsRow base 38 2 (.slice (some ⟨g, 0, none⟩) ivs.length cap) ivs.length (flat ivs)
  low : base ≤ sb

section
variable {w : World} {base sb : Nat} {src : ByteArray} {g cap : Nat} {ivs : List (Int × Int)}

theorem SetAt.cur (h : SetAt w base sb src g cap ivs) : ∃ cur, w.heap[g]? = some (.cells cur 38 (0, 0)) ∧ base ≤ g ∧ ivs.length ≤ cap ∧ cap ≤ maxLen ∧ cur.size = cap * 2 ∧ cur.toList.take (ivs.length * 2) = flat ivs := by
  rcases h.own.2 with ⟨e, _⟩ | ⟨g', cap', cur, e, hb, hh, h1, h2, h3, h4⟩
  · cases e
  · simp only [Value.slice.injEq, Option.some.injEq, Addr.mk.injEq, and_true, true_and] at e
    obtain ⟨rfl, rfl⟩ := e
    exact ⟨cur, hh, hb, h1, h2, h3, h4⟩

theorem SetAt.ne (h : SetAt w base sb src g cap ivs) : g ≠ sb := by
  obtain ⟨cur, hh, _⟩ := h.cur
  intro e
  subst e
  have := h.obj
  rw [hh] at this
  simp at this

theorem SetAt.lt (h : SetAt w base sb src g cap ivs) : sb < w.heap.size ∧ g < w.heap.size := by
  obtain ⟨cur, hh, _⟩ := h.cur
  exact ⟨(Array.getElem?_eq_some_iff.1 h.obj).1, (Array.getElem?_eq_some_iff.1 hh).1⟩

theorem SetAt.source (h : SetAt w base sb src g cap ivs) : w.cell? ⟨sb, 0, none⟩ = some (.string src) := by simp [World.cell?, h.obj]
theorem SetAt.head (h : SetAt w base sb src g cap ivs) : w.cell? ⟨sb, 1, none⟩ = some (.slice (some ⟨g, 0, none⟩) ivs.length cap) := by simp [World.cell?, h.obj]
theorem SetAt.head_free (h : SetAt w base sb src g cap ivs) : w.frozen? ⟨sb, 1, none⟩ = false := by simp [World.frozen?, h.obj]
theorem SetAt.fst (h : SetAt w base sb src g cap ivs) {i : Nat} (hi : i < ivs.length) : w.cell? ⟨g, i * 2, none⟩ = some (.int .u64 (ivs.getD i (0, 0)).1) :=
  (h.own.cellAt (i * 2) (by omega)).trans (flat_fst ivs i hi)
theorem SetAt.snd (h : SetAt w base sb src g cap ivs) {i : Nat} (hi : i < ivs.length) : w.cell? ⟨g, i * 2 + 1, none⟩ = some (.int .u64 (ivs.getD i (0, 0)).2) :=
  (h.own.cellAt (i * 2 + 1) (by omega)).trans (flat_snd ivs i hi)
theorem SetAt.free (h : SetAt w base sb src g cap ivs) (j : Nat) : w.frozen? ⟨g, j, none⟩ = false := h.own.frozenAt j

/-- Into a world in which only new blocks have come. -/
theorem SetAt.kept {w' : World} {B : Nat} (h : SetAt w base sb src g cap ivs) (hb : Below B w w') (h1 : sb < B) (h2 : g < B) : SetAt w' base sb src g cap ivs := by
  refine ⟨(hb.block sb h1).trans h.obj, ⟨h.own.1, ?_⟩, h.low⟩
  obtain ⟨cur, hh, a, b, c, d, e⟩ := h.cur
  exact .inr ⟨g, cap, cur, rfl, a, (hb.block g h2).trans hh, b, c, d, e⟩

/-- The intervals' row alone has turned. -/
theorem SetAt.turned {w' : World} {cur' : Array Value} {ivs' : List (Int × Int)} (h : SetAt w base sb src g cap ivs) (hg : w.grownBy w' (some g)) (hh : w'.heap[g]? = some (.cells cur' 38 (0, 0)))
    (hs : cur'.size = cap * 2) (ht : cur'.toList.take (ivs.length * 2) = flat ivs') (hl : ivs'.length = ivs.length) : SetAt w' base sb src g cap ivs' := by
  obtain ⟨cur, _, a, b, c, _, _⟩ := h.cur
  refine ⟨?_, ⟨flat_length ivs', .inr ⟨g, cap, cur', rfl, a, hh, by rw [hl]; exact b, c, hs, by rw [hl]; exact ht⟩⟩, h.low⟩
  rw [hg.block sb h.lt.1 (by simp; exact Ne.symm h.ne), hl]
  exact h.obj

theorem flat_set_fst : ∀ (ivs : List (Int × Int)) (k : Nat) (a : Int), k < ivs.length → (flat ivs).set (k * 2) (.int .u64 a) = flat (ivs.set k (a, (ivs.getD k (0, 0)).2))
  | [], _, _, h => by simp at h
  | (_, _) :: _, 0, _, _ => rfl
  | (_, _) :: t, k + 1, a, h => by
    have := flat_set_fst t k a (by simpa using h)
    rw [show (k + 1) * 2 = k * 2 + 1 + 1 from by omega]
    simpa [flat] using this

theorem flat_set_snd : ∀ (ivs : List (Int × Int)) (k : Nat) (a : Int), k < ivs.length → (flat ivs).set (k * 2 + 1) (.int .u64 a) = flat (ivs.set k ((ivs.getD k (0, 0)).1, a))
  | [], _, _, h => by simp at h
  | (_, _) :: _, 0, _, _ => rfl
  | (_, _) :: t, k + 1, a, h => by
    have := flat_set_snd t k a (by simpa using h)
    rw [show (k + 1) * 2 + 1 = k * 2 + 1 + 1 + 1 from by omega]
    simpa [flat] using this

theorem SetAt.obj_setCell (h : SetAt w base sb src g cap ivs) (j : Nat) (u : Value) : (w.setCell ⟨g, j, none⟩ u).heap[sb]? = some (.cells #[.string src, .slice (some ⟨g, 0, none⟩) ivs.length cap] 40 (0, 0)) := by
  rw [Below.heap_setCell _ _ _ _ (Ne.symm h.ne)]
  exact h.obj

theorem SetAt.setFst (h : SetAt w base sb src g cap ivs) {k : Nat} (hk : k < ivs.length) (a : Int) : SetAt (w.setCell ⟨g, k * 2, none⟩ (.int .u64 a)) base sb src g cap (ivs.set k (a, (ivs.getD k (0, 0)).2)) := by
  have hs := (h.own.stored (k * 2) (.int .u64 a)).1
  rw [flat_set_fst ivs k a hk] at hs
  exact ⟨by simpa using h.obj_setCell (k * 2) (.int .u64 a), by simpa using hs, h.low⟩

theorem SetAt.setSnd (h : SetAt w base sb src g cap ivs) {k : Nat} (hk : k < ivs.length) (a : Int) : SetAt (w.setCell ⟨g, k * 2 + 1, none⟩ (.int .u64 a)) base sb src g cap (ivs.set k ((ivs.getD k (0, 0)).1, a)) := by
  have hs := (h.own.stored (k * 2 + 1) (.int .u64 a)).1
  rw [flat_set_snd ivs k a hk] at hs
  exact ⟨by simpa using h.obj_setCell (k * 2 + 1) (.int .u64 a), by simpa using hs, h.low⟩

theorem SetAt.setBoth (h : SetAt w base sb src g cap ivs) {k : Nat} (hk : k < ivs.length) (a b : Int) :
    SetAt ((w.setCell ⟨g, k * 2, none⟩ (.int .u64 a)).setCell ⟨g, k * 2 + 1, none⟩ (.int .u64 b)) base sb src g cap (ivs.set k (a, b)) := by
  have h2 := (h.setFst hk a).setSnd (k := k) (by simpa using hk) b
  simpa [hk] using h2

theorem SetAt.below_setCell (h : SetAt w base sb src g cap ivs) {w0 : World} (hb : Below base w0 w) (j : Nat) (u : Value) : Below base w0 (w.setCell ⟨g, j, none⟩ u) := by
  obtain ⟨_, _, a, _⟩ := h.cur
  exact hb.setCell a _

/-- The old header, behind the append. -/
theorem SetAt.head_grown {w1 : World} {o : Obj} (h : SetAt w base sb src g cap ivs) (hgrow : (w.alloc o).grownBy w1 (some g)) :
    w1.cell? ⟨sb, 1, none⟩ = some (.slice (some ⟨g, 0, none⟩) ivs.length cap) ∧ w1.frozen? ⟨sb, 1, none⟩ = false := by
  have hob : w1.heap[sb]? = some (.cells #[.string src, .slice (some ⟨g, 0, none⟩) ivs.length cap] 40 (0, 0)) := by
    rw [hgrow.block sb (by have := h.lt.1; simp; omega) (by simp; exact Ne.symm h.ne), Below.heap_alloc _ _ _ h.lt.1]
    exact h.obj
  simp [World.cell?, World.frozen?, hob]

theorem SetAt.below_grown {w0 w1 : World} {o : Obj} (h : SetAt w base sb src g cap ivs) (hb : Below base w0 w) (hgrow : (w.alloc o).grownBy w1 (some g)) (u : Value) : Below base w0 (w1.setCell ⟨sb, 1, none⟩ u) := by
  obtain ⟨_, _, a, _⟩ := h.cur
  have := h.lt.1
  have := h.low
  refine Below.setCell ((hb.alloc (by omega) o).grown hgrow (by simp; omega) (fun k hk => ?_)) h.low _
  obtain rfl := Option.some.inj hk
  exact a

/-- Behind an append and the store of the new header. -/
theorem SetAt.grown {w1 : World} {o : Obj} {g' cap' H : Nat} {ivs' : List (Int × Int)} (h : SetAt w base sb src g cap ivs) (hH : w.heap.size ≤ H)
    (hown : w1.ownsRow base 38 2 (.slice (some ⟨g', 0, none⟩) ivs'.length cap') ivs'.length (flat ivs')) (hgrow : (w.alloc o).grownBy w1 (some g)) (hat : some g = some g' ∨ g' = H) :
    SetAt (w1.setCell ⟨sb, 1, none⟩ (.slice (some ⟨g', 0, none⟩) ivs'.length cap')) base sb src g' cap' ivs' := by
  have hne : g' ≠ sb := by
    rcases hat with e | e
    · rw [← Option.some.inj e]; exact h.ne
    · have := h.lt.1; omega
  have hob : w1.heap[sb]? = some (.cells #[.string src, .slice (some ⟨g, 0, none⟩) ivs.length cap] 40 (0, 0)) := by
    rw [hgrow.block sb (by have := h.lt.1; simp; omega) (by simp; exact Ne.symm h.ne), Below.heap_alloc _ _ _ h.lt.1]
    exact h.obj
  refine ⟨?_, ⟨hown.1, ?_⟩, h.low⟩
  · rw [heap_setCell_same w1 sb 1 _ 40 _ hob]
    rfl
  · rcases hown.2 with ⟨e, _⟩ | ⟨g2, cap2, cur, e, a, b, c⟩
    · cases e
    · refine .inr ⟨g2, cap2, cur, e, a, ?_, c⟩
      simp only [Value.slice.injEq, Option.some.injEq, Addr.mk.injEq, and_true, true_and] at e
      rw [Below.heap_setCell _ _ _ _ (by rw [← e.1]; exact hne)]
      exact b

end

/-! ### copy between rows whose elements have several cells -/

theorem run_copy_wide {P : Program} (w : World) (dT sT ty elem : TypeId) (size : Nat) (g o dLen dCap : Nat) (a : Addr) (sLen sCap : Nat) (cur : Array Value) (t : TypeId) (cs : List Value) (n : Nat)
    (hu : P.underlying dT = some (.slice elem)) (hs : (P.info? elem).map (·.size) = some size)
    (hg : w.heap[g]? = some (.cells cur t (0, 0))) (hn : n = Nat.min sLen dLen) (hl : cs.length = n * size)
    (hsrc : ∀ j v, cs[j]? = some v → w.cell? (a.add j) = some v) (hfit : o + cs.length ≤ cur.size) (h1 : ∀ v ∈ cs, v.oneCell' = true) :
    (Builtin.copy_ #[dT, sT] ty #[.slice (some ⟨g, o, none⟩) dLen dCap, .slice (some a) sLen sCap]).run P w =
      .ok (goInt n) (w.setRow g (cur.toList.take o ++ cs ++ cur.toList.drop (o + cs.length)).toArray) := by
  have hld := run_loadCells_list (P := P) w a cs hsrc
  have hst := run_storeCells_at P g o t cs 0 cur w hg (by simpa using hfit) h1
  cases hq : P.info? elem with
  | none => simp [hq] at hs
  | some i =>
    have hi : i.size = size := by simpa [hq] using hs
    simp [Builtin.copy_, run_underlying hu, Builtin.lenOf, Builtin.firstCells, sizeOf, typeInfo, hq, hi, ← hn, ← hl, hld, hst]

theorem run_copy_zero {P : Program} (w : World) (dT sT ty elem : TypeId) (size : Nat) (d a : Option Addr) (dLen dCap sLen sCap : Nat) (hu : P.underlying dT = some (.slice elem)) (hs : (P.info? elem).map (·.size) = some size) (hn : Nat.min sLen dLen = 0) :
    (Builtin.copy_ #[dT, sT] ty #[.slice d dLen dCap, .slice a sLen sCap]).run P w = .ok (goInt 0) w := by
  cases hq : P.info? elem with
  | none => simp [hq] at hs
  | some i =>
    have hl : ∀ (x : Addr), (loadCells x 0).run P w = .ok #[] w := fun x => by simpa using run_loadCells_list (P := P) w x [] (by simp)
    cases d <;> cases a <;> simp [Builtin.copy_, run_underlying hu, Builtin.lenOf, Builtin.firstCells, sizeOf, typeInfo, hq, hn, storeCells, hl]

/-- copy AS ONE STEP OF A REGION THAT DRAWS ITS ORDER: the row behind it, all else as it was. -/
theorem step_copy_wide {P : Program} {ops : Array Oper} {o : Oper} {a : Act} {w : World} {K : Act → World → Prop} {Q : Exit → Act → World → Prop} {E : Prop} (hgd : o.guard = none) (d s : Operand) (dT sT : TypeId)
    (ho : o.op = .call { callee := .builtin .copy, args := #[d, s], argTypes := #[dT, sT] }) (elem : TypeId) (size : Nat) (hu : P.underlying dT = some (.slice elem)) (hsz : (P.info? elem).map (·.size) = some size)
    (dp sp : Option Addr) (dLen dCap sLen sCap : Nat) (hd : a.eval d = .slice dp dLen dCap) (hs : a.eval s = .slice sp sLen sCap)
    (g off : Nat) (cur : Array Value) (t : TypeId) (hg : w.heap[g]? = some (.cells cur t (0, 0))) (cs : List Value) (n : Nat) (hn : n = Nat.min sLen dLen) (hl : cs.length = n * size)
    (hpos : 0 < n → dp = some ⟨g, off, none⟩ ∧ ∃ ad, sp = some ad ∧ ∀ j v, cs[j]? = some v → w.cell? (ad.add j) = some v)
    (hfit : off + cs.length ≤ cur.size) (h1 : ∀ v ∈ cs, v.oneCell' = true)
    (h : ∀ w', w.grownBy w' (some g) → w'.heap[g]? = some (.cells (cur.toList.take off ++ cs ++ cur.toList.drop (off + cs.length)).toArray t (0, 0)) → w'.heap.size = w.heap.size → K (a.put o.dst (goInt n)) w') :
    if Region.wanted o (yielded ops a.tmps) = true then Oper.wp P o a w K Q else E := by
  have hw : Region.wanted o (yielded ops a.tmps) = true := by simp [Region.wanted, hgd]
  rw [if_pos hw]
  by_cases h0 : n = 0
  · subst h0
    obtain rfl : cs = [] := List.eq_nil_of_length_eq_zero (by simpa using hl)
    have hrun := run_copy_zero (P := P) w dT sT o.type elem size dp sp dLen dCap sLen sCap hu hsz hn.symm
    unfold Oper.wp
    simp [execOp, ho, resolve, invoke, builtin, hd, hs, hrun, Result.andThen]
    exact h w ⟨rfl, rfl, rfl, Nat.le_refl _, fun _ _ _ => rfl⟩ (by simpa using hg) rfl
  · obtain ⟨rfl, ad, rfl, hsrc⟩ := hpos (by omega)
    have hrun := run_copy_wide (P := P) w dT sT o.type elem size g off dLen dCap ad sLen sCap cur t cs n hu hsz hg hn hl hsrc hfit h1
    unfold Oper.wp
    simp [execOp, ho, resolve, invoke, builtin, hd, hs, hrun, Result.andThen]
    exact h _ ⟨rfl, rfl, rfl, by simp, fun k _ hk => setRow_other w g k _ (fun e => hk (by simp [e]))⟩ (by simpa using setRow_heap w g _ _ t _ hg) (by simp)

/-- Behind the copy that makes room at place k. -/
theorem SetAt.shifted {w w' : World} {base sb : Nat} {src : ByteArray} {g cap : Nat} {ivs : List (Int × Int)} {z : Int × Int} {k : Nat} {cur : Array Value} (h : SetAt w base sb src g cap (ivs ++ [z])) (hk : k ≤ ivs.length)
    (hcur : w.heap[g]? = some (.cells cur 38 (0, 0))) (hg : w.grownBy w' (some g))
    (hh : w'.heap[g]? = some (.cells (cur.toList.take ((k + 1) * 2) ++ flat (ivs.drop k) ++ cur.toList.drop ((k + 1) * 2 + (flat (ivs.drop k)).length)).toArray 38 (0, 0))) :
    ∃ y, SetAt w' base sb src g cap (ivs.take k ++ y :: ivs.drop k) := by
  obtain ⟨cur0, h0, hb, hl, hm, hs, ht⟩ := h.cur
  rw [hcur] at h0
  obtain rfl : cur = cur0 := by simpa using h0
  simp only [List.length_append, List.length_singleton] at hl ht
  have hfl : (flat (ivs.drop k)).length = (ivs.length - k) * 2 := by rw [flat_length, List.length_drop]
  refine ⟨((ivs ++ [z]).getD k (0, 0)), h.turned hg hh ?_ ?_ (by simp; omega)⟩
  · simp only [List.size_toArray, List.length_append, List.length_take, List.length_drop, Array.length_toList, hfl, hs]
    omega
  · have e1 : cur.toList.take ((k + 1) * 2) = flat ((ivs ++ [z]).take (k + 1)) := by
      have : cur.toList.take ((k + 1) * 2) = (cur.toList.take ((ivs.length + 1) * 2)).take ((k + 1) * 2) := by rw [List.take_take, Nat.min_eq_left (by omega)]
      rw [this, ht]
      conv => lhs; rw [← List.take_append_drop (k + 1) (ivs ++ [z]), flat_append]
      rw [List.take_left' (by rw [flat_length]; simp; omega)]
    have e2 : (ivs ++ [z]).take (k + 1) = ivs.take k ++ [(ivs ++ [z]).getD k (0, 0)] := by
      rw [List.take_succ_eq_append_getElem (by simp; omega), List.take_append_of_le_length hk]
      congr 2
      rw [List.getD, List.getElem?_eq_getElem (show k < (ivs ++ [z]).length by simp; omega), Option.getD_some]
    simp only [List.length_append, List.length_singleton]
    rw [List.take_left' (by simp only [List.length_append, List.length_take, Array.length_toList, hfl, hs]; omega), e1, e2, ← flat_append, List.append_assoc]
    rfl

/-- The cells from place k on, as a copy reads them. -/
theorem SetAt.tail_cells {w : World} {base sb : Nat} {src : ByteArray} {g cap : Nat} {ivs : List (Int × Int)} {z : Int × Int} (h : SetAt w base sb src g cap (ivs ++ [z])) (k : Nat) (hk : k ≤ ivs.length) :
    ∀ j v, (flat (ivs.drop k))[j]? = some v → w.cell? ((⟨g, k * 2, none⟩ : Addr).add j) = some v := by
  intro j v hv
  have hj := (List.getElem?_eq_some_iff.1 hv).1
  rw [flat_length, List.length_drop] at hj
  rw [Addr.add_lit, h.own.cellAt (k * 2 + j) (by simp; omega)]
  rw [← List.take_append_drop k (ivs ++ [z]), flat_append, List.getElem?_append_right (by rw [flat_length]; simp; omega), flat_length]
  rw [List.length_take, List.length_append, Nat.min_eq_left (by simp; omega), List.drop_append_of_le_length hk, flat_append, show k * 2 + j - k * 2 = j from by omega, List.getElem?_append_left (by rw [flat_length, List.length_drop]; exact hj)]
  exact hv

/-- append where there is room, at the operation: the row is written out. -/
theorem wp_append_room {P : Program} {o : Oper} {a : Act} {w : World} {K : Act → World → Prop} {Q : Exit → Act → World → Prop} (s x : Operand) (t : TypeId)
    (ho : o.op = .call { callee := .builtin .append, args := #[s, x], argTypes := #[t, t] })
    (e : TypeId) (i : TypeInfo) (size : Nat) (ht : P.underlying t = some (.slice e)) (hi : P.info? e = some i) (hsize : i.size = size)
    (g sLen sCap : Nat) (cur : Array Value) (hg : w.heap[g]? = some (.cells cur e (0, 0))) (hs : a.eval s = .slice (some ⟨g, 0, none⟩) sLen sCap)
    (ad : Addr) (m c : Nat) (hx : a.eval x = .slice (some ad) m c) (news : List Value) (hl : news.length = m * size) (hnews : ∀ j u, news[j]? = some u → w.cell? (ad.add j) = some u) (h1 : ∀ u ∈ news, u.oneCell' = true)
    (hroom : sLen + m ≤ sCap) (hfit : sLen * size + news.length ≤ cur.size)
    (h : K (a.put o.dst (.slice (some ⟨g, 0, none⟩) (sLen + m) sCap)) (w.setRow g (cur.toList.take (sLen * size) ++ news ++ cur.toList.drop (sLen * size + news.length)).toArray)) : o.wp P a w K Q := by
  subst hsize
  have hr := run_append_room (P := P) w t o.type e i ht hi g sLen sCap cur hg ad m c news hl hnews h1 hroom hfit
  unfold Oper.wp execOp
  simp only [ho, resolve, invoke, builtin, Sem.run_bind, Sem.run_pure, Result.andThen_ok, List.map_toArray, List.map_cons, List.map_nil, hs, hx, hr]
  exact h

theorem take_flat {cur : Array Value} {ivs : List (Int × Int)} (ht : cur.toList.take (ivs.length * 2) = flat ivs) (k : Nat) (hk : k ≤ ivs.length) : cur.toList.take (k * 2) = flat (ivs.take k) := by
  have : cur.toList.take (k * 2) = (cur.toList.take (ivs.length * 2)).take (k * 2) := by rw [List.take_take, Nat.min_eq_left (by omega)]
  rw [this, ht]
  conv => lhs; rw [← List.take_append_drop k ivs, flat_append]
  rw [List.take_left' (by rw [flat_length]; simp; omega)]

/-- The cells from place k on. -/
theorem SetAt.cells_from {w : World} {base sb : Nat} {src : ByteArray} {g cap : Nat} {ivs : List (Int × Int)} (h : SetAt w base sb src g cap ivs) (k : Nat) (hk : k ≤ ivs.length) :
    ∀ j v, (flat (ivs.drop k))[j]? = some v → w.cell? ((⟨g, k * 2, none⟩ : Addr).add j) = some v := by
  intro j v hv
  have hj := (List.getElem?_eq_some_iff.1 hv).1
  rw [flat_length, List.length_drop] at hj
  rw [Addr.add_lit, h.own.cellAt (k * 2 + j) (by omega), ← List.take_append_drop k ivs, flat_append, List.getElem?_append_right (by rw [flat_length]; simp; omega), flat_length]
  rw [List.length_take, Nat.min_eq_left hk, show k * 2 + j - k * 2 = j from by omega]
  exact hv

/-- Behind the append that closes the gap at place k, and the store of the shorter header. -/
theorem SetAt.removed {w : World} {base sb : Nat} {src : ByteArray} {g cap : Nat} {ivs : List (Int × Int)} {cur : Array Value} {k m : Nat} (h : SetAt w base sb src g cap ivs) (hk : k + 1 ≤ ivs.length) (hm : m = ivs.length - (k + 1))
    (hcur : w.heap[g]? = some (.cells cur 38 (0, 0))) :
    SetAt ((w.setRow g (cur.toList.take (k * 2) ++ flat (ivs.drop (k + 1)) ++ cur.toList.drop (k * 2 + (flat (ivs.drop (k + 1))).length)).toArray).setCell ⟨sb, 1, none⟩ (.slice (some ⟨g, 0, none⟩) (k + m) cap)) base sb src g cap (ivs.take k ++ ivs.drop (k + 1)) := by
  obtain ⟨cur0, h0, hb, hl, hmx, hs, ht⟩ := h.cur
  rw [hcur] at h0
  obtain rfl : cur = cur0 := by simpa using h0
  have hlen : (ivs.take k ++ ivs.drop (k + 1)).length = k + m := by simp; omega
  have hfl : (flat (ivs.drop (k + 1))).length = (ivs.length - (k + 1)) * 2 := by rw [flat_length, List.length_drop]
  have hob : (w.setRow g (cur.toList.take (k * 2) ++ flat (ivs.drop (k + 1)) ++ cur.toList.drop (k * 2 + (flat (ivs.drop (k + 1))).length)).toArray).heap[sb]? = some (.cells #[.string src, .slice (some ⟨g, 0, none⟩) ivs.length cap] 40 (0, 0)) := by
    rw [setRow_other w g sb _ (Ne.symm h.ne)]; exact h.obj
  refine ⟨?_, ⟨by rw [flat_length], .inr ⟨g, cap, (cur.toList.take (k * 2) ++ flat (ivs.drop (k + 1)) ++ cur.toList.drop (k * 2 + (flat (ivs.drop (k + 1))).length)).toArray, rfl, hb, ?_, by rw [hlen]; omega, hmx, ?_, ?_⟩⟩, h.low⟩
  · rw [heap_setCell_same _ sb 1 _ 40 _ hob, hlen]
    rfl
  · rw [Below.heap_setCell _ _ _ _ h.ne]
    exact setRow_heap w g cur _ 38 (0, 0) hcur
  · simp only [List.size_toArray, List.length_append, List.length_take, List.length_drop, Array.length_toList, hfl, hs]
    omega
  · rw [hlen, take_flat ht k (by omega), ← flat_append, List.take_left' (by rw [flat_length, hlen])]

end Go.Proofs.Qxb6630740a

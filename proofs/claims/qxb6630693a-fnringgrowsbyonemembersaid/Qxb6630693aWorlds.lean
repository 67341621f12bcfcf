import Derived.Test.Qxb6630693aPlain
import Derived.WalkKit
import Derived.Deep.OwnRows
import Derived.Deep.AppendLies
/- What the walk of newGraph says of memory: the row of the peers' slices, each with a block of its own. No program in sight. -/
namespace Go.Proofs.Qxb6630693a
open Go.RowKit

/-- Block pb holds n slices V; slice j owns the numbers f j, in a block from base on that no other slice has. -/
structure PeersAt (w : World) (base pb n : Nat) (f : Nat → List Int) (V : Nat → Value) : Prop where
  row : w.rowIs pb 33 n V
  own : ∀ j, j < n → w.ownsRow base 3 1 (V j) (f j).length ((f j).map (Value.int .i64))
  apart : ∀ i j, i < n → j < n → i ≠ j → (V i).ownBlock = none ∨ (V i).ownBlock ≠ (V j).ownBlock

/-- Into another world that holds the same below its blocks. -/
theorem PeersAt.kept {w w' : World} {base pb n : Nat} {f : Nat → List Int} {V : Nat → Value} (h : PeersAt w base pb n f V) (hg : w.grownBy w' none) : PeersAt w' base pb n f V :=
  ⟨h.row.of_block (hg.block pb h.row.lt (by simp)), fun j hj => (h.own j hj).kept hg (by cases (V j).ownBlock <;> simp), h.apart⟩

theorem PeersAt.alloc {w : World} {base pb n : Nat} {f : Nat → List Int} {V : Nat → Value} (h : PeersAt w base pb n f V) (o : Obj) : PeersAt (w.alloc o) base pb n f V := h.kept (World.grownBy_alloc w o none)

theorem PeersAt.drew {w : World} {base pb n : Nat} {f : Nat → List Int} {V : Nat → Value} (h : PeersAt w base pb n f V) : PeersAt w.drew base pb n f V := ⟨h.row, h.own, h.apart⟩

/-- A member's own block is no block below base, and is there. -/
theorem PeersAt.block {w : World} {base pb n : Nat} {f : Nat → List Int} {V : Nat → Value} (h : PeersAt w base pb n f V) {j : Nat} (hj : j < n) : ∀ k, (V j).ownBlock = some k → base ≤ k ∧ k < w.heap.size := (h.own j hj).lt

theorem PeersAt.ne_low {w : World} {base pb n : Nat} {f : Nat → List Int} {V : Nat → Value} (h : PeersAt w base pb n f V) {j : Nat} (hj : j < n) {b : Nat} (hb : b < base) : (V j).ownBlock ≠ some b := fun e => by have := (h.block hj b e).1; omega

theorem PeersAt.ne_new {w : World} {base pb n : Nat} {f : Nat → List Int} {V : Nat → Value} (h : PeersAt w base pb n f V) {j : Nat} (hj : j < n) {b : Nat} (hb : w.heap.size ≤ b) : (V j).ownBlock ≠ some b := fun e => by have := (h.block hj b e).2; omega

/-- ONE APPEND AND THE STORE BEHIND IT. -/
theorem PeersAt.append {w w1 : World} {base pb n : Nat} {f : Nat → List Int} {V : Nat → Value} (h : PeersAt w base pb n f V) (hpb : pb < base) {j : Nat} (hj : j < n) {x : Int} {g cap H : Nat}
    (hH : w.heap.size ≤ H) (hown : w1.ownsRow base 3 1 (.slice (some ⟨g, 0, none⟩) ((f j).length + 1) cap) ((f j).length + 1) ((f j).map (Value.int .i64) ++ [.int .i64 x]))
    (hgrow : w.grownBy w1 (V j).ownBlock) (hat : (V j).ownBlock = some g ∨ g = H) :
    PeersAt (w1.setCell ⟨pb, j, none⟩ (.slice (some ⟨g, 0, none⟩) ((f j).length + 1) cap)) base pb n (upd f j x) (fun i => if i = j then .slice (some ⟨g, 0, none⟩) ((f j).length + 1) cap else V i) := by
  refine ⟨?_, ?_, ?_⟩
  · have h1 : w1.rowIs pb 33 n V := h.row.of_block (hgrow.block pb h.row.lt (Ne.symm (h.ne_low hj hpb)))
    exact h1.set j _
  · intro i hi
    refine ownsRow_setCell_below ?_ (a := ⟨pb, j, none⟩) hpb _
    unfold upd
    by_cases e : i = j
    · subst e
      simpa using hown
    · rw [if_neg e, if_neg e]
      exact (h.own i hi).kept hgrow (h.apart i j hi hj e)
  · intro a b ha hb hab
    have key : ∀ i, i < n → i ≠ j → (V i).ownBlock = none ∨ (V i).ownBlock ≠ some g := by
      intro i hi hij
      rcases hat with e | e
      · rw [← e]; exact h.apart i j hi hj hij
      · exact .inr (h.ne_new hi (by omega))
    by_cases ea : a = j
    · subst ea
      rw [if_pos rfl, if_neg (Ne.symm hab)]
      rcases key b hb (Ne.symm hab) with e | e
      · right; rw [e]; simp [Value.ownBlock]
      · right; simpa [Value.ownBlock] using Ne.symm e
    · rw [if_neg ea]
      by_cases eb : b = j
      · subst eb
        rw [if_pos rfl]
        simpa [Value.ownBlock] using key a ha hab
      · rw [if_neg eb]
        exact h.apart a b ha hb hab

/-- MEMBER j's OWN ROW TURNED (sorted in place), and the slice stored back as it was. -/
theorem PeersAt.turned {w w1 : World} {base pb n : Nat} {f : Nat → List Int} {V : Nat → Value} (h : PeersAt w base pb n f V) (hpb : pb < base) {j : Nat} (hj : j < n) {l : List Int} {f' : Nat → List Int}
    (hown : w1.ownsRow base 3 1 (V j) l.length (l.map (Value.int .i64))) (hgrow : w.grownBy w1 (V j).ownBlock) (hf : f' j = l) (hf' : ∀ i, i ≠ j → f' i = f i) :
    PeersAt w1 base pb n f' V := by
  refine ⟨h.row.of_block (hgrow.block pb h.row.lt (Ne.symm (h.ne_low hj hpb))), ?_, h.apart⟩
  intro i hi
  by_cases e : i = j
  · subst e; rw [hf]; exact hown
  · rw [hf' i e]; exact (h.own i hi).kept hgrow (h.apart i j hi hj e)

theorem PeersAt.stored {w : World} {base pb n : Nat} {f : Nat → List Int} {V : Nat → Value} (h : PeersAt w base pb n f V) (hpb : pb < base) {j : Nat} (_hj : j < n) : PeersAt (w.setCell ⟨pb, j, none⟩ (V j)) base pb n f V :=
  ⟨(h.row.set j _).congr fun i _ => by by_cases e : i = j <;> simp [e], fun i hi => ownsRow_setCell_below (h.own i hi) (a := ⟨pb, j, none⟩) hpb _, h.apart⟩

theorem PeersAt.congr {w : World} {base pb n : Nat} {f g : Nat → List Int} {V : Nat → Value} (h : PeersAt w base pb n f V) (e : ∀ j, j < n → f j = g j) : PeersAt w base pb n g V :=
  ⟨h.row, fun j hj => by rw [← e j hj]; exact h.own j hj, h.apart⟩

theorem PeersAt.form {w : World} {base pb n : Nat} {f : Nat → List Int} {V : Nat → Value} (h : PeersAt w base pb n f V) {j : Nat} (hj : j < n) : ∃ ao c, V j = .slice ao (f j).length c := by
  rcases (h.own j hj).2 with ⟨e, e2⟩ | ⟨g, cap, cur, e, _⟩
  · exact ⟨none, 0, by rw [e, e2]⟩
  · exact ⟨_, _, e⟩

/-- The graph's own block. -/
def graphObj (ib pb n : Nat) : Obj := .cells #[.slice (some ⟨ib, 0, none⟩) n n, .slice (some ⟨pb, 0, none⟩) n n, .int .i64 n] 30 (0, 0)

/-- newGraph's memory, begun in w: the peers' row at w's end, the graph behind it, the members' blocks behind that. -/
structure St (w : World) (ib n : Nat) (W : World) (f : Nat → List Int) (V : Nat → Value) : Prop where
  peers : PeersAt W (w.heap.size + 2) w.heap.size n f V
  graph : W.heap[w.heap.size + 1]? = some (graphObj ib w.heap.size n)
  size : w.heap.size + 2 ≤ W.heap.size
  below : Below w.heap.size w W

theorem St.graph_cell {w W : World} {ib n : Nat} {f : Nat → List Int} {V : Nat → Value} (h : St w ib n W f V) : W.cell? ⟨w.heap.size + 1, 1, none⟩ = some (.slice (some ⟨w.heap.size, 0, none⟩) n n) := by
  simp [World.cell?, h.graph, graphObj]

theorem St.alloc {w W : World} {ib n : Nat} {f : Nat → List Int} {V : Nat → Value} (h : St w ib n W f V) (o : Obj) : St w ib n (W.alloc o) f V :=
  ⟨h.peers.alloc o, (Below.heap_alloc _ _ _ (by have := h.size; omega)).trans h.graph, by have := h.size; simp; omega, h.below.alloc (by have := h.size; omega) o⟩

theorem St.drew {w W : World} {ib n : Nat} {f : Nat → List Int} {V : Nat → Value} (h : St w ib n W f V) : St w ib n W.drew f V := ⟨h.peers.drew, h.graph, h.size, h.below.drew⟩

theorem St.start (w : World) (ib n : Nat) : St w ib n ((w.alloc (.cells (madeCells #[.slice none 0 0] n) 33)).alloc (graphObj ib w.heap.size n)) (linked n 0) (fun _ => .slice none 0 0) := by
  refine ⟨⟨((World.rowIs_made w (.slice none 0 0) n 33).alloc _), fun j _ => World.ownsRow_nil _ _ _ _, fun _ _ _ _ _ => .inl rfl⟩, ?_, by simp, ?_⟩
  · have h := heap_alloc_new (w.alloc (.cells (madeCells #[.slice none 0 0] n) 33)) (graphObj ib w.heap.size n)
    simpa using h
  · exact ((Below.refl _ _).alloc (Nat.le_refl _) _).alloc (by simp) _

theorem St.congr {w W : World} {ib n : Nat} {f g : Nat → List Int} {V : Nat → Value} (h : St w ib n W f V) (e : ∀ j, j < n → f j = g j) : St w ib n W g V :=
  ⟨h.peers.congr e, h.graph, h.size, h.below⟩

/-- Into a world that has new blocks besides. -/
theorem St.kept {w W W' : World} {ib n : Nat} {f : Nat → List Int} {V : Nat → Value} (h : St w ib n W f V) (hb : Below W.heap.size W W') : St w ib n W' f V :=
  ⟨h.peers.kept ⟨hb.os, hb.tape, hb.output, hb.size, fun k hk _ => hb.block k hk⟩, (hb.block _ (by have := h.size; omega)).trans h.graph, Nat.le_trans h.size hb.size, h.below.trans (hb.mono (by have := h.size; omega))⟩

/-- A member's own row has been sorted. -/
theorem St.turned {w W W' : World} {ib n : Nat} {f f' : Nat → List Int} {V : Nat → Value} (h : St w ib n W f V) {j : Nat} (hj : j < n) {l : List Int}
    (hown : W'.ownsRow (w.heap.size + 2) 3 1 (V j) l.length (l.map (Value.int .i64))) (hgrow : W.grownBy W' (V j).ownBlock) (hf : f' j = l) (hf' : ∀ i, i ≠ j → f' i = f i) : St w ib n W' f' V := by
  have hs := h.size
  refine ⟨h.peers.turned (by omega) hj hown hgrow hf hf', ?_, Nat.le_trans hs hgrow.size, ?_⟩
  · rw [hgrow.block _ (by omega) (Ne.symm (h.peers.ne_low hj (by omega)))]
    exact h.graph
  · exact h.below.grown hgrow (by omega) (fun k hk => by have := (h.peers.block hj k hk).1; omega)

theorem St.stored {w W : World} {ib n : Nat} {f : Nat → List Int} {V : Nat → Value} (h : St w ib n W f V) {j : Nat} (hj : j < n) : St w ib n (W.setCell ⟨w.heap.size, j, none⟩ (V j)) f V :=
  ⟨h.peers.stored (by omega) hj, by rw [Below.heap_setCell _ _ _ _ (by simp)]; exact h.graph, by simpa using h.size, h.below.setCell (Nat.le_refl _) _⟩

/-- One append and the store behind it. -/
theorem St.append {w W w1 : World} {ib n : Nat} {f : Nat → List Int} {V : Nat → Value} (h : St w ib n W f V) {j : Nat} (hj : j < n) {x : Int} {g cap H : Nat}
    (hH : W.heap.size ≤ H) (hown : w1.ownsRow (w.heap.size + 2) 3 1 (.slice (some ⟨g, 0, none⟩) ((f j).length + 1) cap) ((f j).length + 1) ((f j).map (Value.int .i64) ++ [.int .i64 x]))
    (hgrow : W.grownBy w1 (V j).ownBlock) (hat : (V j).ownBlock = some g ∨ g = H) :
    St w ib n (w1.setCell ⟨w.heap.size, j, none⟩ (.slice (some ⟨g, 0, none⟩) ((f j).length + 1) cap)) (upd f j x) (fun i => if i = j then .slice (some ⟨g, 0, none⟩) ((f j).length + 1) cap else V i) := by
  have hs := h.size
  refine ⟨h.peers.append (by omega) hj hH hown hgrow hat, ?_, ?_, ?_⟩
  · rw [Below.heap_setCell _ _ _ _ (by simp), hgrow.block _ (by omega) (Ne.symm (h.peers.ne_low hj (by omega)))]
    exact h.graph
  · have := hgrow.size; simp; omega
  · refine Below.setCell (h.below.grown hgrow (by omega) (fun k hk => ?_)) (Nat.le_refl _) _
    have := (h.peers.block hj k hk).1
    omega

/-- In a round: the link's own block L, which is no member's. -/
structure Mid (w : World) (ib n L k m : Nat) (W : World) (f : Nat → List Int) (V : Nat → Value) : Prop where
  st : St w ib n W f V
  link : W.heap[L]? = some (.cells #[.int .i64 k, .int .i64 m] 39 (0, 0))
  high : w.heap.size + 2 ≤ L
  far : ∀ j, j < n → (V j).ownBlock ≠ some L

theorem Mid.start {w W : World} {ib n : Nat} {f : Nat → List Int} {V : Nat → Value} (h : St w ib n W f V) (k m : Nat) : Mid w ib n W.heap.size k m (W.alloc (.cells #[.int .i64 k, .int .i64 m] 39)) f V :=
  ⟨h.alloc _, heap_alloc_new _ _, h.size, fun _ hj => h.peers.ne_new hj (Nat.le_refl _)⟩

theorem Mid.hid {w W : World} {ib n L k m : Nat} {f : Nat → List Int} {V : Nat → Value} (h : Mid w ib n L k m W f V) : Hid (Mid w ib n L k m W f V) := h

theorem Mid.lt {w W : World} {ib n L k m : Nat} {f : Nat → List Int} {V : Nat → Value} (h : Mid w ib n L k m W f V) : L < W.heap.size := (Array.getElem?_eq_some_iff.1 h.link).1

theorem Mid.append {w W w1 : World} {ib n L k m : Nat} {f : Nat → List Int} {V : Nat → Value} (h : Mid w ib n L k m W f V) {j : Nat} (hj : j < n) {x : Int} {g cap : Nat} {o : Obj}
    (hown : w1.ownsRow (w.heap.size + 2) 3 1 (.slice (some ⟨g, 0, none⟩) ((f j).length + 1) cap) ((f j).length + 1) ((f j).map (Value.int .i64) ++ [.int .i64 x]))
    (hgrow : (W.alloc o).drew.grownBy w1 (V j).ownBlock) (hat : (V j).ownBlock = some g ∨ g = W.heap.size + 1) :
    Mid w ib n L k m (w1.setCell ⟨w.heap.size, j, none⟩ (.slice (some ⟨g, 0, none⟩) ((f j).length + 1) cap)) (upd f j x) (fun i => if i = j then .slice (some ⟨g, 0, none⟩) ((f j).length + 1) cap else V i) := by
  have hL := h.lt
  have hh := h.high
  have h' : St w ib n (W.alloc o).drew f V := (h.st.alloc o).drew
  refine ⟨h'.append hj (H := W.heap.size + 1) (by simp) hown hgrow hat, ?_, h.high, ?_⟩
  · rw [Below.heap_setCell _ _ _ _ (by simp; omega), hgrow.block _ (by simp; omega) (Ne.symm (h.far j hj))]
    exact (Below.heap_alloc W o L hL).trans h.link
  · intro i hi
    by_cases e : i = j
    · subst e
      rw [if_pos rfl]
      simp only [Value.ownBlock, ne_eq, Option.some.injEq]
      rcases hat with e | e
      · intro e2; subst e2; exact h.far i hi e
      · omega
    · rw [if_neg e]
      exact h.far i hi

theorem setRow_same (w : World) (g : Nat) (cur : Array Value) (e : TypeId) (h : w.heap[g]? = some (.cells cur e (0, 0))) : w.setRow g cur = w := by
  have hh : (w.setRow g cur).heap = w.heap := by
    apply Array.ext_getElem?
    intro j
    by_cases ej : j = g
    · subst ej; rw [setRow_heap w j cur cur e (0, 0) h, h]
    · exact setRow_other w g j cur ej
  show ({ w with heap := (w.setRow g cur).heap } : World) = w
  rw [hh]

/-- An append that writes what lies there already: the world is as it was. -/
theorem run_append_same {P : Program} (w : World) (t ty e : TypeId) (i : TypeInfo) (ht : P.underlying t = some (.slice e)) (hi : P.info? e = some i) (hs : i.size = 1)
    (g k cap c : Nat) (cur : Array Value) (hg : w.heap[g]? = some (.cells cur e (0, 0))) (a : Addr) (v : Value) (hnew : w.cell? a = some v) (h1 : v.oneCell' = true) (hroom : k + 1 ≤ cap) (hat : cur[k]? = some v) :
    (Builtin.append_ #[t, t] ty #[.slice (some ⟨g, 0, none⟩) k cap, .slice (some a) 1 c]).run P w = .ok (.slice (some ⟨g, 0, none⟩) (k + 1) cap) w := by
  have hk : k < cur.size := (Array.getElem?_eq_some_iff.1 hat).1
  have hr := run_append_room (P := P) w t ty e i ht hi g k cap cur hg a 1 c [v] (by simp [hs]) (fun j u hu => by
    match j, hu with
    | 0, hu => simp at hu; subst hu; simpa [Addr.add] using hnew) (fun u hu => by simp at hu; subst hu; exact h1) hroom (by rw [hs]; simp; omega)
  rw [hr]
  have e1 : (cur.toList.take (k * i.size) ++ [v] ++ cur.toList.drop (k * i.size + [v].length)).toArray = cur := by
    rw [hs, Nat.mul_one]
    apply Array.toList_inj.1
    have hv : cur.toList[k]? = some v := by simpa using hat
    apply List.ext_getElem?
    intro j
    simp only [List.append_assoc, List.length_singleton, List.singleton_append]
    by_cases h1 : j < k
    · rw [List.getElem?_append_left (by simp; omega), List.getElem?_take_of_lt h1]
    · rw [List.getElem?_append_right (by simp; omega)]
      simp only [List.length_take, Array.length_toList, Nat.min_eq_left (Nat.le_of_lt hk)]
      by_cases h2 : j = k
      · subst h2; simp [hat]
      · obtain ⟨d, rfl⟩ : ∃ d, j = k + 1 + d := ⟨j - k - 1, by omega⟩
        rw [show k + 1 + d - k = d + 1 from by omega, List.getElem?_cons_succ, List.getElem?_drop]
  rw [e1, setRow_same w g cur e hg]

theorem wpList_append_same {P : Program} (w : World) {ops : Array Oper} {rest : List Oper} {o : Oper} {a : Act} {Q : Exit → Act → World → Prop}
    (hgd : o.guard = none) (s x : Operand) (t : TypeId) (hop : o.op = Op.call { callee := Callee.builtin Builtin.append, args := #[s, x], argTypes := #[t, t] })
    (e : TypeId) (i : TypeInfo) (ht : P.underlying t = some (.slice e)) (hi : P.info? e = some i) (hs : i.size = 1)
    (g k cap c : Nat) (cur : Array Value) (hg : w.heap[g]? = some (.cells cur e (0, 0))) (ad : Addr) (v : Value) (hsv : a.eval s = .slice (some ⟨g, 0, none⟩) k cap) (hxv : a.eval x = .slice (some ad) 1 c)
    (hnew : w.cell? ad = some v) (h1 : v.oneCell' = true) (hroom : k + 1 ≤ cap) (hat : cur[k]? = some v)
    (hK : wpList P ops Q rest (a.put o.dst (.slice (some ⟨g, 0, none⟩) (k + 1) cap)) w) : wpList P ops Q (o :: rest) a w := by
  refine wpList_plain hgd fun K hK' => ?_
  have hrun := run_append_same (P := P) w t o.type e i ht hi hs g k cap c cur hg ad v hnew h1 hroom hat
  unfold Oper.wp
  simp [execOp, hop, resolve, invoke, builtin, hsv, hxv, hrun, Result.andThen]
  exact hK' _ _ hK

end Go.Proofs.Qxb6630693a

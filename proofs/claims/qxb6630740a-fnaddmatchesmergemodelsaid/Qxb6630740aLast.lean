import Derived.OrdersHeld
import Derived.Deep.RegionHeld
/- A region that draws its order and whose LAST operation waits for each other one: that one alone may write what the loads read ('xs[i] = append(xs[i], v)'). Derived/OrdersHeld.lean's law, with the condition S not asked behind the last operation. -/
namespace Go.Proofs.Qxb6630740a
open Go

section
variable {P : Program} {ops : Array Oper} {Q : Exit → Act → World → Prop} {md : Region.Mode} {S : World → Prop} {last : Nat}

def wpAnyL (P : Program) (md : Region.Mode) (ops : Array Oper) (Q : Exit → Act → World → Prop) (S : World → Prop) (last : Nat) : Nat → Array Bool → Act → World → Prop
  | 0, listed, a, w => Region.ready md ops listed = [] ∧ Q .normal a w
  | fuel + 1, listed, a, w =>
    (Region.ready md ops listed = [] → Q .normal a w) ∧
    ∀ i ∈ Region.ready md ops listed, wpOp P ops Q i (fun a' w' => (i ≠ last → S w') ∧ wpAnyL P md ops Q S last fuel (listed.setIfInBounds i true) a' w') a w

theorem wpAny_of_L : ∀ (fuel : Nat) (listed : Array Bool) (a : Act) (w : World), wpAnyL P md ops Q S last fuel listed a w → wpAny P md ops Q fuel listed a w
  | 0, _, _, _, h => h
  | fuel + 1, _, _, _, h => ⟨h.1, fun i hi => wpOp_mono (fun a' w' h' => wpAny_of_L fuel _ a' w' h'.2) (h.2 i hi)⟩

/-- Operation number 'last' waits for number i. -/
def waits (md : Region.Mode) (ops : Array Oper) (last i : Nat) : Bool :=
  match ops[last]? with
  | some o => o.after.any fun e => Region.binds md e && e.on == i
  | none => true

theorem waits_not {i : Nat} {listed : Array Bool} (h : waits md ops last i = true) (hl : last ∈ Region.ready md ops listed) (hi : i ∈ Region.ready md ops listed) : False := by
  obtain ⟨_, o, ho, hall⟩ := mem_ready.1 hl
  obtain ⟨h0, _⟩ := mem_ready.1 hi
  simp only [waits, ho] at h
  obtain ⟨e, he, hb⟩ := Array.any_eq_true'.1 h
  simp only [Bool.and_eq_true, beq_iff_eq] at hb
  have h1 := hall e he hb.1
  rw [hb.2] at h1
  rcases Nat.lt_or_ge i listed.size with h' | h'
  · simp [h'] at h0 h1; rw [h0] at h1; cases h1
  · simp [Array.getElem?_eq_none h'] at h1

theorem wpAnyL_first {i : Nat} {oi : Oper} {v : Value} (hi : ops[i]? = some oi) (hsel : ∀ (j : Nat) (o : Oper) cs b, ops[j]? = some o → o.op ≠ .select cs b)
    (hwait : waits md ops last i = true)
    (hQ : ∀ c a w, Q (.panic c) (a.put oi.dst v) w → Q (.panic c) a w) :
    ∀ (fuel : Nat) (listed : Array Bool) (a : Act) (w : World),
      (∀ j oj, ops[j]? = some oj → j ≠ i → listed.getD j true = false → (∀ e ∈ oj.after, Region.binds md e = true → e.on ≠ i) → oi.apart ops oj = true) →
      i ∈ Region.ready md ops listed → YieldsIf P ops S oi v a → S w →
      wpAnyL P md ops Q S last fuel (listed.setIfInBounds i true) (a.put oi.dst v) w → wpAnyL P md ops Q S last (fuel + 1) listed a w := by
  intro fuel
  induction fuel with
  | zero =>
    intro listed a w _ hr hy hS H
    refine ⟨fun h => (by rw [h] at hr; cases hr), fun j hj => ?_⟩
    by_cases hji : j = i
    · subst hji; exact hy.wpOp hi hS ⟨fun _ => hS, H⟩
    · have := ready_mono hj hji
      rw [H.1] at this
      cases this
  | succ fuel ih =>
    intro listed a w hfree hr hy hS H
    refine ⟨fun h => (by rw [h] at hr; cases hr), fun j hj => ?_⟩
    by_cases hji : j = i
    · subst hji; exact hy.wpOp hi hS ⟨fun _ => hS, H⟩
    · have hjl : j ≠ last := fun e => by subst e; exact waits_not hwait hj hr
      have h1 := H.2 j (ready_mono hj hji)
      obtain ⟨hjun, oj, hoj, hall⟩ := mem_ready.1 hj
      have hnot : ∀ e ∈ oj.after, Region.binds md e = true → e.on ≠ i := fun e he hb heq => by
        have h1 := hall e he hb
        have h0 := (mem_ready.1 hr).1
        rw [heq] at h1
        rcases Nat.lt_or_ge i listed.size with h' | h'
        · simp [h'] at h0 h1; rw [h0] at h1; cases h1
        · simp [Array.getElem?_eq_none h'] at h1
      have h2 := wpOp_putIf hoj (hfree j oj hoj hji hjun hnot) (fun cs b => hsel i oi cs b hi) (fun cs b => hsel j oj cs b hoj) hQ hy h1
      have hfree' : ∀ k ok, ops[k]? = some ok → k ≠ i → (listed.setIfInBounds j true).getD k true = false →
          (∀ e ∈ ok.after, Region.binds md e = true → e.on ≠ i) → oi.apart ops ok = true := fun k ok hk hki hun hno => by
        refine hfree k ok hk hki ?_ hno
        by_cases hjk : j = k
        · subst hjk; exact hjun
        · rw [getD_set_ne true hjk] at hun; exact hun
      refine wpOp_mono (fun a' w' h3 => ⟨fun _ => h3.2.1 hjl, ih (listed.setIfInBounds j true) a' w' hfree' (ready_mono hr (Ne.symm hji)) h3.1 (h3.2.1 hjl) ?_⟩) h2
      rw [Array.setIfInBounds_comm _ _ hji]
      exact h3.2.2

/-- Take number i first. -/
theorem wpAnyL_take {i : Nat} {oi : Oper} {v : Value} {fuel : Nat} {listed : Array Bool} {a : Act} {w : World} (hi : ops[i]? = some oi)
    (hs : Region.noSelect ops = true) (hf : Region.free md ops listed i = true) (hr : (Region.ready md ops listed).contains i = true) (hwait : waits md ops last i = true)
    (hQ : ∀ c a w, Q (.panic c) (a.put oi.dst v) w → Q (.panic c) a w) (hy : Region.wanted oi (yielded ops a.tmps) = true ∧ ∀ w, S w → (execOp a.eval oi).run P w = .ok (.value v) w) (hS : S w)
    (h : wpAnyL P md ops Q S last fuel (listed.setIfInBounds i true) (a.put oi.dst v) w) : wpAnyL P md ops Q S last (fuel + 1) listed a w :=
  wpAnyL_first hi (Region.noSelect_spec hs) hwait hQ fuel listed a w (Region.free_spec hi hf) (by simpa using hr) (.inl hy) hS h

/-- Number i alone may come up, and is not the last. -/
theorem wpAnyL_one {i : Nat} {o : Oper} {fuel : Nat} {listed : Array Bool} {a : Act} {w : World} (hr : Region.ready md ops listed = [i]) (ho : ops[i]? = some o) (hg : o.guard = none)
    (h : ∀ K' : Act → World → Prop, Shut (∀ a w, S w → (S w → wpAnyL P md ops Q S last fuel (listed.setIfInBounds i true) a w) → K' a w) → Oper.wp P o a w K' Q) : wpAnyL P md ops Q S last (fuel + 1) listed a w := by
  refine ⟨fun h0 => (by rw [hr] at h0; cases h0), fun j hj => ?_⟩
  rw [hr] at hj
  obtain rfl : j = i := by simpa using hj
  refine wpOp_step ho (fun K' hK => ?_)
  have hw : Region.wanted o (yielded ops a.tmps) = true := by simp [Region.wanted, hg]
  rw [if_pos hw]
  exact h K' (fun a w hS hW => hK a w ⟨fun _ => hS, hW hS⟩)

/-- The last comes up. -/
theorem wpAnyL_last {o : Oper} {fuel : Nat} {listed : Array Bool} {a : Act} {w : World} (hr : Region.ready md ops listed = [last]) (ho : ops[last]? = some o) (hg : o.guard = none)
    (hd : Region.ready md ops (listed.setIfInBounds last true) = [])
    (h : ∀ K' : Act → World → Prop, Shut (∀ a w, Q .normal a w → K' a w) → Oper.wp P o a w K' Q) : wpAnyL P md ops Q S last (fuel + 1) listed a w := by
  refine ⟨fun h0 => (by rw [hr] at h0; cases h0), fun j hj => ?_⟩
  rw [hr] at hj
  obtain rfl : j = last := by simpa using hj
  refine wpOp_step ho (fun K' hK => ?_)
  have hw : Region.wanted o (yielded ops a.tmps) = true := by simp [Region.wanted, hg]
  rw [if_pos hw]
  refine h K' (fun a w hq => hK a w ⟨fun e => absurd rfl e, ?_⟩)
  cases fuel with
  | zero => exact ⟨hd, hq⟩
  | succ fuel => exact ⟨fun _ => hq, by rw [hd]; simp⟩

theorem wp_region_L (S : World → Prop) (last : Nat) {id : Nat} {a : Act} {w : World} (hm : P.follows .mixedOrders = true) (hS : S w.drew)
    (h : S w.drew → wpAnyL P .any ops Q S last ops.size (Array.replicate ops.size false) a w.drew) : (Code.region id ops true).wp P Q a w :=
  wp_region_any hm (wpAny_of_L _ _ _ _ (h hS))

end
end Go.Proofs.Qxb6630740a

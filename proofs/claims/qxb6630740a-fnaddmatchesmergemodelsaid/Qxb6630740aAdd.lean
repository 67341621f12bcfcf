import Derived.Test.Qxb6630740aProg
import Derived.Test.Qxb6630740aMem
import Derived.Test.Qxb6630740aLast
import Derived.WalkLawsBesides
import Derived.Deep.QuietTactic
import Derived.BigQuiet
import Derived.Laws.CopyOwn
import Derived.Deep.RegionHeld3
import Derived.KernelRfl
/- (*Set).Add: the walk. -/
namespace Go.Proofs.Qxb6630740a
open Go.RowKit

theorem info38 : (Try.prog.info? 38).map (fun i => (i.zero, i.size, i.bytes)) = some (some (.agg #[.int .u64 0, .int .u64 0]), 2, 16) := by kernel_rfl

/-- What the loads of a statement over the intervals read of the struct. -/
def HeadS (sb g len cap : Nat) (w' : World) : Prop := w'.cell? ⟨sb, 1, none⟩ = some (.slice (some ⟨g, 0, none⟩) len cap)

theorem SetAt.drew {w : World} {base sb : Nat} {src : ByteArray} {g cap : Nat} {ivs : List (Int × Int)} (h : SetAt w base sb src g cap ivs) : SetAt w.drew base sb src g cap ivs := ⟨h.obj, h.own, h.low⟩

theorem size38 : (Try.prog.info? 38).map (·.size) = some 2 := by kernel_rfl

set_option maxRecDepth 100000 in
set_option maxHeartbeats 1600000 in
theorem add_calls (base sb : Nat) (src : ByteArray) (g cap : Nat) (ivs : List (Int × Int)) (n : Int) (w : World) (h : SetAt w base sb src g cap ivs) (hc : CanonFrom (-1) ivs) (hn0 : 0 ≤ n) (hn1 : n < maxU)
    (hlen : ivs.length ≤ 1048576) :
    Calls Try.prog 8 #[.pointer (some ⟨sb, 0, none⟩), .int .u64 n] w fun e w' => e = .returned (.tuple #[]) ∧ (∃ g' cap', SetAt w' base sb src g' cap' (addIv n ivs)) ∧ Below base w w' := by
  obtain ⟨i0, hi0, hz0, hz1, hz2⟩ := info_parts info38
  have hh := h.head
  have hbs : base ≤ w.heap.size := by have := h.low; have := h.lt.1; omega
  unfold maxU at hn1
  go_enter Try.func8, Try.ntmps8
  go_wp2
  go_loop [4] (fun t => ∃ k : Nat, k ≤ ivs.length ∧ t = .int .i64 k ∧ ∀ j, j < k → (ivs.getD j (0, 0)).2 + 1 < n) (fun t => ivs.length - (intOf t).toNat)
  case atStart => exact ⟨0, Nat.zero_le _, rfl, fun j hj => absurd hj (Nat.not_lt_zero _)⟩
  case round =>
    obtain ⟨k, hk, rfl, hall⟩ := hrel
    have HA : Hid (∀ j, j < k → (ivs.getD j (0, 0)).2 + 1 < n) := hall
    clear hall
    by_cases hlt : k < ivs.length
    · have c1 := h.snd hlt
      have c0 := h.fst hlt
      have hat := canon_at hc k hlt
      obtain ⟨hb0, hb1, hb2⟩ := hat
      have HL : Hid (SetAt w base sb src g cap ivs ∧ CanonFrom (-1) ivs) := ⟨h, hc⟩
      clear h hc
      unfold maxU at hb2
      generalize hl : (ivs.getD k (0, 0)).2 = l at *
      generalize hf : (ivs.getD k (0, 0)).1 = f at *
      have HE : Hid ((ivs.getD k (0, 0)).2 = l ∧ (ivs.getD k (0, 0)).1 = f) := ⟨hl, hf⟩
      clear hl hf
      have hkl : (k : Int) < (ivs.length : Int) := by omega
      have hke : ((k : Int) == (ivs.length : Int)) = false := by rw [beq_eq_false_iff_ne]; omega
      by_cases hcn : l + 1 < n
      · go_wp2
        refine ⟨⟨k + 1, by omega, by go_num, fun j hj => ?_⟩, by simp [intOf]; omega⟩
        by_cases e : j = k
        · subst e; rw [HE.out.1]; exact hcn
        · exact HA.out j (by omega)
      · by_cases hins : n + 1 < f
        · go_wp2_with (at_builtin; (refine wpList_append_lies _ rfl (.tmp 52) (.tmp 54) 36 rfl base 38 i0 _ 2 16 Try.underlying36 hi0 hz0 hz1 hz2 rfl (by omega) (.slice (some ⟨g, 0, none⟩) ivs.length cap) ivs.length (flat ivs) (by rfl) (HL.out.1.own.alloc _) ⟨w.heap.size, 0, none⟩ 1 1 [.int .u64 0, .int .u64 0] (by rfl) (by rfl) (World.news_of_block (cs := #[.int .u64 0, .int .u64 0]) (t := 38) (fr := (0, 0)) (heap_alloc_new w _)) (by simp [Value.oneCell']) (by omega) (by unfold maxLen; omega) (by omega) (by simp; omega) (w.heap.size + 1) (by simp) ?_); intro g' cap' w1 hown1 hgrow hat hlt1; have hd1 := (HL.out.1.head_grown hgrow).1; have hd2 := (HL.out.1.head_grown hgrow).2)
          have hset := HL.out.1.grown (w1 := w1) (g' := g') (cap' := cap') (H := w.heap.size + 1) (ivs' := ivs ++ [(0, 0)]) (by omega) (by simpa [flat_append, flat] using hown1) hgrow hat
          have hbel := HL.out.1.below_grown (Below.refl base w) hgrow (.slice (some ⟨g', 0, none⟩) (ivs.length + 1) cap')
          simp only [List.length_append, List.length_singleton] at hset
          generalize (w1.setCell ⟨sb, 1, none⟩ (.slice (some ⟨g', 0, none⟩) (ivs.length + 1) cap')) = W at hset hbel ⊢
          clear hown1 hgrow hat hlt1 hd1 hd2
          obtain ⟨cur, hcur, hgb, hcap, hcapm, hcs, _⟩ := hset.cur
          simp only [List.length_append, List.length_singleton] at hcap
          have hhead := hset.head
          simp only [List.length_append, List.length_singleton] at hhead
          have HS : Hid (SetAt W base sb src g' cap' (ivs ++ [(0, 0)]) ∧ Below base w W ∧ W.heap[g']? = some (.cells cur 38 (0, 0))) := ⟨hset, hbel, hcur⟩
          have hnesb : some g' ≠ some sb := by simpa using hset.ne
          have hltsb : sb < W.heap.size := hset.lt.1
          have hbW : base ≤ W.heap.size := by have := hset.low; omega
          clear hset hbel hcur
          have hk2 : (k : Int) + 1 ≤ (ivs.length : Int) + 1 := by omega
          have hk3 : (k : Int) ≤ (ivs.length : Int) + 1 := by omega
          have hk4 : (k : Int) ≤ (ivs.length : Int) := by omega
          have hk5 : IntKind.i64.wrap ((k : Int) + 1) = (k : Int) + 1 := by rw [IntKind.wrap_i64]; omega
          have hk6 : (0 : Int) ≤ (k : Int) + 1 := by omega
          go_region_held3 (fun w' => w'.cell? ⟨sb, 1, none⟩ = some (.slice (some ⟨g', 0, none⟩) (ivs.length + 1) cap'))
            (first | go_keep | (rw [hgr.cell_far _ (by simp; omega) (Ne.symm hnesb)]; assumption))
            ((refine step_copy_wide rfl (.tmp 64) (.tmp 70) 36 36 rfl 38 2 Try.underlying36 size38 _ _ _ _ _ _ (by rfl) (by rfl) g' ((k + 1) * 2) cur 38 (by exact HS.out.2.2) (flat (ivs.drop k)) (ivs.length - k) (by show _ = min _ _; omega) (by rw [flat_length, List.length_drop]) (by intro h0; refine ⟨by first | rfl | (rw [if_neg (by omega)]; done) | (rw [if_neg (by omega)]; rfl), ⟨g', k * 2, none⟩, by first | rfl | (rw [if_neg (by omega)]; done) | (rw [if_neg (by omega)]; rfl), ?_⟩; exact HS.out.1.tail_cells k (by omega)) (by rw [flat_length, List.length_drop, hcs]; omega) (flat_one _) ?_; intro w3 hgr hh3 hs3))
          have hgr' : W.grownBy w3 (some g') := ⟨hgr.os, hgr.tape, hgr.output, hgr.size, hgr.block⟩
          obtain ⟨y, hset3⟩ := HS.out.1.shifted (k := k) (by omega) HS.out.2.2 hgr' hh3
          have hbel3 : Below base w w3 := HS.out.2.1.grown hgr' hbW (fun j hj => by obtain rfl := Option.some.inj hj; exact hgb)
          clear hgr hgr' hh3 hs3 HS
          have hlen3 : (ivs.take k ++ y :: ivs.drop k).length = ivs.length + 1 := by simp; omega
          have hkl3 : k < (ivs.take k ++ y :: ivs.drop k).length := by omega
          have d1 := hset3.head
          rw [hlen3] at d1
          have d2 := hset3.fst hkl3
          have d3 := hset3.snd hkl3
          have d4 := hset3.free (k * 2)
          have d5 := hset3.free (k * 2 + 1)
          have hfin := hset3.setBoth hkl3 n n
          have hbfin : Below base w ((w3.setCell ⟨g', k * 2, none⟩ (.int .u64 n)).setCell ⟨g', k * 2 + 1, none⟩ (.int .u64 n)) := (hbel3.setCell hgb _).setCell hgb _
          have HF : Hid (SetAt ((w3.setCell ⟨g', k * 2, none⟩ (.int .u64 n)).setCell ⟨g', k * 2 + 1, none⟩ (.int .u64 n)) base sb src g' cap' (addIv n ivs) ∧ Below base w ((w3.setCell ⟨g', k * 2, none⟩ (.int .u64 n)).setCell ⟨g', k * 2 + 1, none⟩ (.int .u64 n))) := by
            refine ⟨?_, ?_⟩
            · rw [addIv_insert hk HA.out (fun _ => by rw [HE.out.1, HE.out.2]; exact ⟨by omega, hins⟩)]
              have e : (ivs.take k ++ y :: ivs.drop k).set k (n, n) = ivs.take k ++ (n, n) :: ivs.drop k := by
                rw [List.set_append_right _ _ (by simp; omega)]
                simp [Nat.min_eq_left hk]
              rw [← e]; exact hfin
            · exact hbfin
          clear hfin hbfin hset3 hbel3 hkl3
          go_wp2_with fail
          all_goals
            go_end0
            exact ⟨rfl, ⟨g', cap', HF.out.1⟩, HF.out.2⟩
        · by_cases hfi : n + 1 = f
          · have t1 : decide (n + 1 < f) = false := by simp; omega
            have t2 : (n + 1 == f) = true := by rw [beq_iff_eq]; exact hfi
            have d1 := HL.out.1.free (k * 2)
            have hfin := HL.out.1.setFst hlt n
            have HF : Hid (SetAt (w.setCell ⟨g, k * 2, none⟩ (.int .u64 n)) base sb src g cap (addIv n ivs) ∧ Below base w (w.setCell ⟨g, k * 2, none⟩ (.int .u64 n))) := by
              refine ⟨?_, HL.out.1.below_setCell (Below.refl _ _) _ _⟩
              rw [addIv_first hlt HA.out (by rw [HE.out.1]; omega) (by rw [HE.out.2]; exact hfi)]
              exact hfin
            clear hfin
            have HFI : Hid (n + 1 = f) := hfi
            clear hfi
            go_wp2_with fail
            go_end0
            exact ⟨rfl, ⟨g, cap, HF.out.1⟩, HF.out.2⟩
          · have t1 : decide (n + 1 < f) = false := by simp; omega
            have t2 : (n + 1 == f) = false := by rw [beq_eq_false_iff_ne]; exact hfi
            by_cases hla : n = l + 1
            · have t3 : (n == l + 1) = true := by rw [beq_iff_eq]; exact hla
              have HLA : Hid (n = l + 1) := hla
              clear hla
              have d1 := HL.out.1.free (k * 2 + 1)
              have hs2 := HL.out.1.setSnd hlt n
              rw [HE.out.2] at hs2
              have hbel2 : Below base w (w.setCell ⟨g, k * 2 + 1, none⟩ (.int .u64 n)) := HL.out.1.below_setCell (Below.refl _ _) _ _
              by_cases hk1 : k + 1 < ivs.length
              · have e1 : (ivs.set k (f, n)).getD (k + 1) (0, 0) = ivs.getD (k + 1) (0, 0) := by simp [List.getD]
                have d2 := hs2.head
                have d3 := hs2.fst (i := k + 1) (by simpa using hk1)
                have d4 := hs2.snd (i := k + 1) (by simpa using hk1)
                have d5 := hs2.snd (i := k) (by simpa using hlt)
                have d6 := hs2.free (k * 2 + 1)
                rw [e1] at d3 d4
                simp only [List.length_set] at d2
                have t4 : decide ((k : Int) + 1 < (ivs.length : Int)) = true := by simp; omega
                have hb3 := (canon_at HL.out.2 (k + 1) hk1).2.2
                unfold maxU at hb3
                generalize hf2 : (ivs.getD (k + 1) (0, 0)).1 = f2 at *
                generalize hl2 : (ivs.getD (k + 1) (0, 0)).2 = l2 at *
                have HE2 : Hid ((ivs.getD (k + 1) (0, 0)).1 = f2 ∧ (ivs.getD (k + 1) (0, 0)).2 = l2) := ⟨hf2, hl2⟩
                clear hf2 hl2 e1
                have hk1' : (k : Int) + 1 < (ivs.length : Int) := by omega
                by_cases hme : f2 = n + 1
                · have t5 : (f2 == n + 1) = true := by rw [beq_iff_eq]; exact hme
                  have HME : Hid (f2 = n + 1) := hme
                  clear hme
                  have HS2 : Hid (SetAt (w.setCell ⟨g, k * 2 + 1, none⟩ (.int .u64 n)) base sb src g cap (ivs.set k (f, n)) ∧ Below base w (w.setCell ⟨g, k * 2 + 1, none⟩ (.int .u64 n))) := ⟨hs2, hbel2⟩
                  clear hs2 hbel2
                  go_wp2_with fail
                  generalize (w.setCell ⟨g, k * 2 + 1, none⟩ (.int .u64 n)) = W2 at HS2 d2 d3 d4 d5 d6 ⊢
                  have hbgk : ¬ g = sb := HS2.out.1.ne
                  have hk7 : IntKind.i64.wrap ((k : Int) + 1) = (k : Int) + 1 := by rw [IntKind.wrap_i64]; omega
                  have hk8 : (0 : Int) ≤ (k : Int) + 1 := by omega
                  have z1 : ∀ x, (W2.setCell ⟨g, k * 2 + 1, none⟩ x).cell? ⟨g, (k + 1) * 2 + 1, none⟩ = some (.int .u64 l2) := fun x => by rw [World.cell?_setCell_other _ _ _ _ (by simp)]; exact d4
                  have z2 : ∀ x, (W2.setCell ⟨g, k * 2 + 1, none⟩ x).cell? ⟨sb, 1, none⟩ = some (.slice (some ⟨g, 0, none⟩) ivs.length cap) := fun x => by rw [World.cell?_setCell_other _ _ _ _ (by simp)]; exact d2
                  go_region_held3 (fun w' => w'.cell? ⟨sb, 1, none⟩ = some (.slice (some ⟨g, 0, none⟩) ivs.length cap) ∧ w'.cell? ⟨g, (k + 1) * 2 + 1, none⟩ = some (.int .u64 l2))
                    (go_keep)
                    (fail)
                  have hs3 := HS2.out.1.setSnd (k := k) (by simpa using hlt) l2
                  have hbel3 : Below base w (W2.setCell ⟨g, k * 2 + 1, none⟩ (.int .u64 l2)) := HS2.out.1.below_setCell HS2.out.2 _ _
                  have e3 : (ivs.set k (f, n)).set k (((ivs.set k (f, n)).getD k (0, 0)).1, l2) = ivs.set k (f, l2) := by simp [List.getD, hlt]
                  rw [e3] at hs3
                  clear e3
                  go_wp2_with fail
                  have hs3' := hs3.drew
                  have hbel3' : Below base w (W2.setCell ⟨g, k * 2 + 1, none⟩ (.int .u64 l2)).drew := hbel3.drew
                  clear hs3 hbel3 z1 z2 HS2 d2 d3 d4 d5 d6
                  generalize ((W2.setCell ⟨g, k * 2 + 1, none⟩ (.int .u64 l2)).drew) = W3 at hs3' hbel3' ⊢
                  obtain ⟨ivs3, hi3⟩ : ∃ ivs3, ivs3 = ivs.set k (f, l2) := ⟨_, rfl⟩
                  rw [← hi3] at hs3'
                  have hl3 : ivs3.length = ivs.length := by rw [hi3]; simp
                  obtain ⟨cur, hcur, hgb, hcap, hcapm, hcs, _⟩ := hs3'.cur
                  have hfin := hs3'.drew.removed (k := k + 1) (m := ivs.length - (k + 2)) (by omega) (by omega) hcur
                  have hhd := hs3'.head
                  rw [hl3] at hhd
                  have hfz := hs3'.head_free
                  have hcells := hs3'.cells_from (k + 2) (by omega)
                  have HI3 : Hid (ivs3 = ivs.set k (f, l2)) := hi3
                  have hsbg : sb ≠ g := fun e => hbgk e.symm
                  have hk9 : (k : Int) + 1 ≤ (cap : Int) := by omega
                  have hk10 : (k : Int) + 2 ≤ (ivs.length : Int) := by omega
                  have hk11 : IntKind.i64.wrap ((k : Int) + 2) = (k : Int) + 2 := by rw [IntKind.wrap_i64]; omega
                  have hk12 : (0 : Int) ≤ (k : Int) + 2 := by omega
                  have hk13 : ((k : Int) + 2).toNat = k + 2 := by omega
                  have HC : Hid (W3.heap[g]? = some (.cells cur 38 (0, 0))) := hcur
                  have HEAD : Hid (W3.cell? ⟨sb, 1, none⟩ = some (.slice (some ⟨g, 0, none⟩) ivs.length cap) ∧ W3.frozen? ⟨sb, 1, none⟩ = false) := ⟨hhd, hfz⟩
                  have HFIN : Hid (∀ W4, W4 = (W3.drew.setRow g (cur.toList.take ((k + 1) * 2) ++ flat (ivs3.drop (k + 2)) ++ cur.toList.drop ((k + 1) * 2 + (flat (ivs3.drop (k + 2))).length)).toArray) → SetAt (W4.setCell ⟨sb, 1, none⟩ (.slice (some ⟨g, 0, none⟩) (k + 1 + (ivs.length - (k + 2))) cap)) base sb src g cap (ivs3.take (k + 1) ++ ivs3.drop (k + 1 + 1)) ∧
                      Below base w (W4.setCell ⟨sb, 1, none⟩ (.slice (some ⟨g, 0, none⟩) (k + 1 + (ivs.length - (k + 2))) cap)) ∧ W4.cell? ⟨sb, 1, none⟩ = some (.slice (some ⟨g, 0, none⟩) ivs.length cap) ∧ W4.frozen? ⟨sb, 1, none⟩ = false) := by
                    rintro W4 rfl
                    refine ⟨hfin, ?_, ?_, ?_⟩
                    · exact (below_setRow hbel3'.drew hgb _).setCell (p := ⟨sb, 1, none⟩) hs3'.low _
                    · exact (World.cell?_of_block (w := W3.drew) (a := ⟨sb, 1, none⟩) (setRow_other W3.drew g sb _ hsbg)).trans hhd
                    · exact (World.frozen?_of_block (w := W3.drew) (a := ⟨sb, 1, none⟩) (setRow_other W3.drew g sb _ hsbg)).trans hfz
                  have HCELLS : Hid (∀ j v, (flat (ivs3.drop (k + 2)))[j]? = some v → W3.cell? ((⟨g, (k + 2) * 2, none⟩ : Addr).add j) = some v) := hcells
                  clear hfin hhd hfz hcells hi3 hcur hs3' hbel3'
                  have hdrop : Hid (addIv n ivs = ivs3.take (k + 1) ++ ivs3.drop (k + 1 + 1)) := by
                    show addIv n ivs = _
                    have := addIv_merge hk1 HA.out (by rw [HE.out.2]; have := HLA.out; omega) (by rw [HE.out.1]; exact HLA.out) (by rw [HE2.out.1]; exact HME.out)
                    rw [this, HE.out.2, HE2.out.2, HI3.out, set_merge hlt]
                  by_cases hcp : cap = k + 2
                  · refine wp_region_noPanic ?_
                    refine wp_region_L (HeadS sb g ivs.length cap) 18 (by kernel_rfl) HEAD.out.1 (fun hHeld => ?_)
                    have hm0 : ivs.length - (k + 2) = 0 := by omega
                    refine wpAnyL_take (i := 0) (oi := { dst := some 159, op := .move (.tmp 0), type := 26, pos := _, after := _, guard := none }) (v := .pointer (some ⟨sb, 0, none⟩)) rfl (by kernel_rfl) (by kernel_rfl) (by kernel_rfl) (by kernel_rfl) (fun _ _ _ h => h) ⟨by rfl, ?_⟩ hHeld ?_
                    · intro wS hSw; unfold HeadS at hSw; go_simp
                    simp only [Act.put, List.setIfInBounds_toArray, List.set_cons_zero, List.set_cons_succ]
                    refine wpAnyL_take (i := 1) (oi := { dst := some 160, op := .move (.tmp 0), type := 26, pos := _, after := _, guard := none }) (v := .pointer (some ⟨sb, 0, none⟩)) rfl (by kernel_rfl) (by kernel_rfl) (by kernel_rfl) (by kernel_rfl) (fun _ _ _ h => h) ⟨by rfl, ?_⟩ hHeld ?_
                    · intro wS hSw; unfold HeadS at hSw; go_simp
                    simp only [Act.put, List.setIfInBounds_toArray, List.set_cons_zero, List.set_cons_succ]
                    refine wpAnyL_take (i := 2) (oi := { dst := some 161, op := .nilCheck (.tmp 160), type := 0, pos := _, after := _, guard := none }) (v := .pointer (some ⟨sb, 0, none⟩)) rfl (by kernel_rfl) (by kernel_rfl) (by kernel_rfl) (by kernel_rfl) (fun _ _ _ h => h) ⟨by rfl, ?_⟩ hHeld ?_
                    · intro wS hSw; unfold HeadS at hSw; go_simp
                    simp only [Act.put, List.setIfInBounds_toArray, List.set_cons_zero, List.set_cons_succ]
                    refine wpAnyL_take (i := 3) (oi := { dst := some 162, op := .fieldAddr 40 (.tmp 161) 1, type := 0, pos := _, after := _, guard := none }) (v := .pointer (some ⟨sb, 1, none⟩)) rfl (by kernel_rfl) (by kernel_rfl) (by kernel_rfl) (by kernel_rfl) (fun _ _ _ h => h) ⟨by rfl, ?_⟩ hHeld ?_
                    · intro wS hSw; unfold HeadS at hSw; go_simp
                    simp only [Act.put, List.setIfInBounds_toArray, List.set_cons_zero, List.set_cons_succ]
                    refine wpAnyL_take (i := 4) (oi := { dst := some 163, op := .load 36 (.tmp 162), type := 36, pos := _, after := _, guard := none }) (v := .slice (some ⟨g, 0, none⟩) ivs.length cap) rfl (by kernel_rfl) (by kernel_rfl) (by kernel_rfl) (by kernel_rfl) (fun _ _ _ h => h) ⟨by rfl, ?_⟩ hHeld ?_
                    · intro wS hSw; unfold HeadS at hSw; go_simp
                    simp only [Act.put, List.setIfInBounds_toArray, List.set_cons_zero, List.set_cons_succ]
                    refine wpAnyL_take (i := 5) (oi := { dst := some 164, op := .move (.tmp 4), type := 3, pos := _, after := _, guard := none }) (v := .int .i64 k) rfl (by kernel_rfl) (by kernel_rfl) (by kernel_rfl) (by kernel_rfl) (fun _ _ _ h => h) ⟨by rfl, ?_⟩ hHeld ?_
                    · intro wS hSw; unfold HeadS at hSw; go_simp
                    simp only [Act.put, List.setIfInBounds_toArray, List.set_cons_zero, List.set_cons_succ]
                    refine wpAnyL_take (i := 6) (oi := { dst := some 165, op := .binOp .add 3 (.tmp 164) (.const (.int .i64 1)) 3, type := 3, pos := _, after := _, guard := none }) (v := .int .i64 ((k : Int) + 1)) rfl (by kernel_rfl) (by kernel_rfl) (by kernel_rfl) (by kernel_rfl) (fun _ _ _ h => h) ⟨by rfl, ?_⟩ hHeld ?_
                    · intro wS hSw; unfold HeadS at hSw; go_simp
                    simp only [Act.put, List.setIfInBounds_toArray, List.set_cons_zero, List.set_cons_succ]
                    refine wpAnyL_take (i := 7) (oi := { dst := some 166, op := .slice 36 (.tmp 163) none (some (.tmp 165)) none, type := 36, pos := _, after := _, guard := none }) (v := .slice (some ⟨g, 0, none⟩) (k + 1) cap) rfl (by kernel_rfl) (by kernel_rfl) (by kernel_rfl) (by kernel_rfl) (fun _ _ _ h => h) ⟨by rfl, ?_⟩ hHeld ?_
                    · intro wS hSw; unfold HeadS at hSw; go_simp
                    simp only [Act.put, List.setIfInBounds_toArray, List.set_cons_zero, List.set_cons_succ]
                    refine wpAnyL_take (i := 8) (oi := { dst := some 167, op := .move (.tmp 0), type := 26, pos := _, after := _, guard := none }) (v := .pointer (some ⟨sb, 0, none⟩)) rfl (by kernel_rfl) (by kernel_rfl) (by kernel_rfl) (by kernel_rfl) (fun _ _ _ h => h) ⟨by rfl, ?_⟩ hHeld ?_
                    · intro wS hSw; unfold HeadS at hSw; go_simp
                    simp only [Act.put, List.setIfInBounds_toArray, List.set_cons_zero, List.set_cons_succ]
                    refine wpAnyL_take (i := 9) (oi := { dst := some 168, op := .nilCheck (.tmp 167), type := 0, pos := _, after := _, guard := none }) (v := .pointer (some ⟨sb, 0, none⟩)) rfl (by kernel_rfl) (by kernel_rfl) (by kernel_rfl) (by kernel_rfl) (fun _ _ _ h => h) ⟨by rfl, ?_⟩ hHeld ?_
                    · intro wS hSw; unfold HeadS at hSw; go_simp
                    simp only [Act.put, List.setIfInBounds_toArray, List.set_cons_zero, List.set_cons_succ]
                    refine wpAnyL_take (i := 10) (oi := { dst := some 169, op := .fieldAddr 40 (.tmp 168) 1, type := 0, pos := _, after := _, guard := none }) (v := .pointer (some ⟨sb, 1, none⟩)) rfl (by kernel_rfl) (by kernel_rfl) (by kernel_rfl) (by kernel_rfl) (fun _ _ _ h => h) ⟨by rfl, ?_⟩ hHeld ?_
                    · intro wS hSw; unfold HeadS at hSw; go_simp
                    simp only [Act.put, List.setIfInBounds_toArray, List.set_cons_zero, List.set_cons_succ]
                    refine wpAnyL_take (i := 11) (oi := { dst := some 170, op := .load 36 (.tmp 169), type := 36, pos := _, after := _, guard := none }) (v := .slice (some ⟨g, 0, none⟩) ivs.length cap) rfl (by kernel_rfl) (by kernel_rfl) (by kernel_rfl) (by kernel_rfl) (fun _ _ _ h => h) ⟨by rfl, ?_⟩ hHeld ?_
                    · intro wS hSw; unfold HeadS at hSw; go_simp
                    simp only [Act.put, List.setIfInBounds_toArray, List.set_cons_zero, List.set_cons_succ]
                    refine wpAnyL_take (i := 12) (oi := { dst := some 171, op := .move (.tmp 4), type := 3, pos := _, after := _, guard := none }) (v := .int .i64 k) rfl (by kernel_rfl) (by kernel_rfl) (by kernel_rfl) (by kernel_rfl) (fun _ _ _ h => h) ⟨by rfl, ?_⟩ hHeld ?_
                    · intro wS hSw; unfold HeadS at hSw; go_simp
                    simp only [Act.put, List.setIfInBounds_toArray, List.set_cons_zero, List.set_cons_succ]
                    refine wpAnyL_take (i := 13) (oi := { dst := some 172, op := .binOp .add 3 (.tmp 171) (.const (.int .i64 2)) 3, type := 3, pos := _, after := _, guard := none }) (v := .int .i64 ((k : Int) + 2)) rfl (by kernel_rfl) (by kernel_rfl) (by kernel_rfl) (by kernel_rfl) (fun _ _ _ h => h) ⟨by rfl, ?_⟩ hHeld ?_
                    · intro wS hSw; unfold HeadS at hSw; go_simp
                    simp only [Act.put, List.setIfInBounds_toArray, List.set_cons_zero, List.set_cons_succ]
                    refine wpAnyL_take (i := 14) (oi := { dst := some 173, op := .slice 36 (.tmp 170) (some (.tmp 172)) none none, type := 36, pos := _, after := _, guard := none }) (v := .slice (some ⟨g, 0, none⟩) (ivs.length - (k + 2)) (cap - (k + 2))) rfl (by kernel_rfl) (by kernel_rfl) (by kernel_rfl) (by kernel_rfl) (fun _ _ _ h => h) ⟨by rfl, ?_⟩ hHeld ?_
                    · intro wS hSw; unfold HeadS at hSw; go_simp
                    simp only [Act.put, List.setIfInBounds_toArray, List.set_cons_zero, List.set_cons_succ]
                    refine wpAnyL_one (i := 15) (o := { dst := some 174, op := .call { callee := .builtin .append, args := #[.tmp 166, .tmp 173], argTypes := #[36, 36] }, type := 36, pos := _, after := _, guard := none }) (by kernel_rfl) rfl rfl (fun K hK => ?_)
                    refine wp_append_room (.tmp 166) (.tmp 173) 36 rfl 38 i0 2 Try.underlying36 hi0 hz1 g (k + 1) cap cur HC.out (by rfl) ⟨g, 0, none⟩ (ivs.length - (k + 2)) (cap - (k + 2)) (by rfl) (flat (ivs3.drop (k + 2))) (by rw [flat_length, List.length_drop, hl3]) ?_ (flat_one _) (by omega) (by rw [flat_length, List.length_drop, hl3, hcs]; omega) ?_
                    · rw [List.drop_eq_nil_of_le (by omega)]; intro j u hu; simp [flat] at hu
                    refine hK.out _ _ ?_ (fun hHeld2 => ?_)
                    · exact (World.cell?_of_block (w := W3.drew) (a := ⟨sb, 1, none⟩) (by exact setRow_other _ g sb _ hsbg)).trans HEAD.out.1
                    clear hK K hHeld
                    obtain ⟨W4, hW4⟩ : ∃ W4, W4 = (W3.drew.setRow g (cur.toList.take ((k + 1) * 2) ++ flat (ivs3.drop (k + 2)) ++ cur.toList.drop ((k + 1) * 2 + (flat (ivs3.drop (k + 2))).length)).toArray) := ⟨_, rfl⟩
                    rw [← hW4] at hHeld2 ⊢
                    obtain ⟨hfin, hbfin, hcell4, hfr4⟩ := HFIN.out W4 hW4
                    have HF4 : Hid (SetAt (W4.setCell ⟨sb, 1, none⟩ (.slice (some ⟨g, 0, none⟩) (k + 1 + (ivs.length - (k + 2))) cap)) base sb src g cap (addIv n ivs) ∧ Below base w (W4.setCell ⟨sb, 1, none⟩ (.slice (some ⟨g, 0, none⟩) (k + 1 + (ivs.length - (k + 2))) cap))) := ⟨by rw [hdrop.out]; exact hfin, hbfin⟩
                    clear hfin hbfin hW4 HFIN HC HCELLS HEAD hdrop
                    simp only [Act.put, List.setIfInBounds_toArray, List.set_cons_zero, List.set_cons_succ]
                    refine wpAnyL_one (i := 16) (o := { dst := some 175, op := .nilCheck (.tmp 159), type := 0, pos := _, after := _, guard := none }) (by kernel_rfl) rfl rfl (fun K hK => ?_)
                    go_simp
                    refine hK.out _ _ hHeld2 (fun _ => ?_)
                    clear hK K
                    refine wpAnyL_one (i := 17) (o := { dst := some 176, op := .fieldAddr 40 (.tmp 175) 1, type := 0, pos := _, after := _, guard := none }) (by kernel_rfl) rfl rfl (fun K hK => ?_)
                    go_simp
                    refine hK.out _ _ hHeld2 (fun _ => ?_)
                    clear hK K
                    refine wpAnyL_last (o := { dst := none, op := .store 36 (.tmp 176) (.tmp 174), type := 0, pos := _, after := _, guard := none }) (by kernel_rfl) rfl rfl (by kernel_rfl) (fun K hK => ?_)
                    go_simp
                    refine hK.out _ _ ?_
                    clear hK K
                    refine NoPanic.normal ?_
                    go_wp2_with fail
                    go_end0
                    have hf4 := HF4.out
                    rw [hm0, hcp] at hf4
                    exact ⟨rfl, ⟨g, k + 2, hf4.1⟩, hf4.2⟩
                  · refine wp_region_noPanic ?_
                    refine wp_region_L (HeadS sb g ivs.length cap) 18 (by kernel_rfl) HEAD.out.1 (fun hHeld => ?_)
                    refine wpAnyL_take (i := 0) (oi := { dst := some 159, op := .move (.tmp 0), type := 26, pos := _, after := _, guard := none }) (v := .pointer (some ⟨sb, 0, none⟩)) rfl (by kernel_rfl) (by kernel_rfl) (by kernel_rfl) (by kernel_rfl) (fun _ _ _ h => h) ⟨by rfl, ?_⟩ hHeld ?_
                    · intro wS hSw; unfold HeadS at hSw; go_simp
                    simp only [Act.put, List.setIfInBounds_toArray, List.set_cons_zero, List.set_cons_succ]
                    refine wpAnyL_take (i := 1) (oi := { dst := some 160, op := .move (.tmp 0), type := 26, pos := _, after := _, guard := none }) (v := .pointer (some ⟨sb, 0, none⟩)) rfl (by kernel_rfl) (by kernel_rfl) (by kernel_rfl) (by kernel_rfl) (fun _ _ _ h => h) ⟨by rfl, ?_⟩ hHeld ?_
                    · intro wS hSw; unfold HeadS at hSw; go_simp
                    simp only [Act.put, List.setIfInBounds_toArray, List.set_cons_zero, List.set_cons_succ]
                    refine wpAnyL_take (i := 2) (oi := { dst := some 161, op := .nilCheck (.tmp 160), type := 0, pos := _, after := _, guard := none }) (v := .pointer (some ⟨sb, 0, none⟩)) rfl (by kernel_rfl) (by kernel_rfl) (by kernel_rfl) (by kernel_rfl) (fun _ _ _ h => h) ⟨by rfl, ?_⟩ hHeld ?_
                    · intro wS hSw; unfold HeadS at hSw; go_simp
                    simp only [Act.put, List.setIfInBounds_toArray, List.set_cons_zero, List.set_cons_succ]
                    refine wpAnyL_take (i := 3) (oi := { dst := some 162, op := .fieldAddr 40 (.tmp 161) 1, type := 0, pos := _, after := _, guard := none }) (v := .pointer (some ⟨sb, 1, none⟩)) rfl (by kernel_rfl) (by kernel_rfl) (by kernel_rfl) (by kernel_rfl) (fun _ _ _ h => h) ⟨by rfl, ?_⟩ hHeld ?_
                    · intro wS hSw; unfold HeadS at hSw; go_simp
                    simp only [Act.put, List.setIfInBounds_toArray, List.set_cons_zero, List.set_cons_succ]
                    refine wpAnyL_take (i := 4) (oi := { dst := some 163, op := .load 36 (.tmp 162), type := 36, pos := _, after := _, guard := none }) (v := .slice (some ⟨g, 0, none⟩) ivs.length cap) rfl (by kernel_rfl) (by kernel_rfl) (by kernel_rfl) (by kernel_rfl) (fun _ _ _ h => h) ⟨by rfl, ?_⟩ hHeld ?_
                    · intro wS hSw; unfold HeadS at hSw; go_simp
                    simp only [Act.put, List.setIfInBounds_toArray, List.set_cons_zero, List.set_cons_succ]
                    refine wpAnyL_take (i := 5) (oi := { dst := some 164, op := .move (.tmp 4), type := 3, pos := _, after := _, guard := none }) (v := .int .i64 k) rfl (by kernel_rfl) (by kernel_rfl) (by kernel_rfl) (by kernel_rfl) (fun _ _ _ h => h) ⟨by rfl, ?_⟩ hHeld ?_
                    · intro wS hSw; unfold HeadS at hSw; go_simp
                    simp only [Act.put, List.setIfInBounds_toArray, List.set_cons_zero, List.set_cons_succ]
                    refine wpAnyL_take (i := 6) (oi := { dst := some 165, op := .binOp .add 3 (.tmp 164) (.const (.int .i64 1)) 3, type := 3, pos := _, after := _, guard := none }) (v := .int .i64 ((k : Int) + 1)) rfl (by kernel_rfl) (by kernel_rfl) (by kernel_rfl) (by kernel_rfl) (fun _ _ _ h => h) ⟨by rfl, ?_⟩ hHeld ?_
                    · intro wS hSw; unfold HeadS at hSw; go_simp
                    simp only [Act.put, List.setIfInBounds_toArray, List.set_cons_zero, List.set_cons_succ]
                    refine wpAnyL_take (i := 7) (oi := { dst := some 166, op := .slice 36 (.tmp 163) none (some (.tmp 165)) none, type := 36, pos := _, after := _, guard := none }) (v := .slice (some ⟨g, 0, none⟩) (k + 1) cap) rfl (by kernel_rfl) (by kernel_rfl) (by kernel_rfl) (by kernel_rfl) (fun _ _ _ h => h) ⟨by rfl, ?_⟩ hHeld ?_
                    · intro wS hSw; unfold HeadS at hSw; go_simp
                    simp only [Act.put, List.setIfInBounds_toArray, List.set_cons_zero, List.set_cons_succ]
                    refine wpAnyL_take (i := 8) (oi := { dst := some 167, op := .move (.tmp 0), type := 26, pos := _, after := _, guard := none }) (v := .pointer (some ⟨sb, 0, none⟩)) rfl (by kernel_rfl) (by kernel_rfl) (by kernel_rfl) (by kernel_rfl) (fun _ _ _ h => h) ⟨by rfl, ?_⟩ hHeld ?_
                    · intro wS hSw; unfold HeadS at hSw; go_simp
                    simp only [Act.put, List.setIfInBounds_toArray, List.set_cons_zero, List.set_cons_succ]
                    refine wpAnyL_take (i := 9) (oi := { dst := some 168, op := .nilCheck (.tmp 167), type := 0, pos := _, after := _, guard := none }) (v := .pointer (some ⟨sb, 0, none⟩)) rfl (by kernel_rfl) (by kernel_rfl) (by kernel_rfl) (by kernel_rfl) (fun _ _ _ h => h) ⟨by rfl, ?_⟩ hHeld ?_
                    · intro wS hSw; unfold HeadS at hSw; go_simp
                    simp only [Act.put, List.setIfInBounds_toArray, List.set_cons_zero, List.set_cons_succ]
                    refine wpAnyL_take (i := 10) (oi := { dst := some 169, op := .fieldAddr 40 (.tmp 168) 1, type := 0, pos := _, after := _, guard := none }) (v := .pointer (some ⟨sb, 1, none⟩)) rfl (by kernel_rfl) (by kernel_rfl) (by kernel_rfl) (by kernel_rfl) (fun _ _ _ h => h) ⟨by rfl, ?_⟩ hHeld ?_
                    · intro wS hSw; unfold HeadS at hSw; go_simp
                    simp only [Act.put, List.setIfInBounds_toArray, List.set_cons_zero, List.set_cons_succ]
                    refine wpAnyL_take (i := 11) (oi := { dst := some 170, op := .load 36 (.tmp 169), type := 36, pos := _, after := _, guard := none }) (v := .slice (some ⟨g, 0, none⟩) ivs.length cap) rfl (by kernel_rfl) (by kernel_rfl) (by kernel_rfl) (by kernel_rfl) (fun _ _ _ h => h) ⟨by rfl, ?_⟩ hHeld ?_
                    · intro wS hSw; unfold HeadS at hSw; go_simp
                    simp only [Act.put, List.setIfInBounds_toArray, List.set_cons_zero, List.set_cons_succ]
                    refine wpAnyL_take (i := 12) (oi := { dst := some 171, op := .move (.tmp 4), type := 3, pos := _, after := _, guard := none }) (v := .int .i64 k) rfl (by kernel_rfl) (by kernel_rfl) (by kernel_rfl) (by kernel_rfl) (fun _ _ _ h => h) ⟨by rfl, ?_⟩ hHeld ?_
                    · intro wS hSw; unfold HeadS at hSw; go_simp
                    simp only [Act.put, List.setIfInBounds_toArray, List.set_cons_zero, List.set_cons_succ]
                    refine wpAnyL_take (i := 13) (oi := { dst := some 172, op := .binOp .add 3 (.tmp 171) (.const (.int .i64 2)) 3, type := 3, pos := _, after := _, guard := none }) (v := .int .i64 ((k : Int) + 2)) rfl (by kernel_rfl) (by kernel_rfl) (by kernel_rfl) (by kernel_rfl) (fun _ _ _ h => h) ⟨by rfl, ?_⟩ hHeld ?_
                    · intro wS hSw; unfold HeadS at hSw; go_simp
                    simp only [Act.put, List.setIfInBounds_toArray, List.set_cons_zero, List.set_cons_succ]
                    refine wpAnyL_take (i := 14) (oi := { dst := some 173, op := .slice 36 (.tmp 170) (some (.tmp 172)) none none, type := 36, pos := _, after := _, guard := none }) (v := .slice (some ⟨g, (k + 2) * 2, none⟩) (ivs.length - (k + 2)) (cap - (k + 2))) rfl (by kernel_rfl) (by kernel_rfl) (by kernel_rfl) (by kernel_rfl) (fun _ _ _ h => h) ⟨by rfl, ?_⟩ hHeld ?_
                    · intro wS hSw; unfold HeadS at hSw; go_simp
                    simp only [Act.put, List.setIfInBounds_toArray, List.set_cons_zero, List.set_cons_succ]
                    refine wpAnyL_one (i := 15) (o := { dst := some 174, op := .call { callee := .builtin .append, args := #[.tmp 166, .tmp 173], argTypes := #[36, 36] }, type := 36, pos := _, after := _, guard := none }) (by kernel_rfl) rfl rfl (fun K hK => ?_)
                    refine wp_append_room (.tmp 166) (.tmp 173) 36 rfl 38 i0 2 Try.underlying36 hi0 hz1 g (k + 1) cap cur HC.out (by rfl) ⟨g, (k + 2) * 2, none⟩ (ivs.length - (k + 2)) (cap - (k + 2)) (by rfl) (flat (ivs3.drop (k + 2))) (by rw [flat_length, List.length_drop, hl3]) ?_ (flat_one _) (by omega) (by rw [flat_length, List.length_drop, hl3, hcs]; omega) ?_
                    · exact HCELLS.out
                    refine hK.out _ _ ?_ (fun hHeld2 => ?_)
                    · exact (World.cell?_of_block (w := W3.drew) (a := ⟨sb, 1, none⟩) (by exact setRow_other _ g sb _ hsbg)).trans HEAD.out.1
                    clear hK K hHeld
                    obtain ⟨W4, hW4⟩ : ∃ W4, W4 = (W3.drew.setRow g (cur.toList.take ((k + 1) * 2) ++ flat (ivs3.drop (k + 2)) ++ cur.toList.drop ((k + 1) * 2 + (flat (ivs3.drop (k + 2))).length)).toArray) := ⟨_, rfl⟩
                    rw [← hW4] at hHeld2 ⊢
                    obtain ⟨hfin, hbfin, hcell4, hfr4⟩ := HFIN.out W4 hW4
                    have HF4 : Hid (SetAt (W4.setCell ⟨sb, 1, none⟩ (.slice (some ⟨g, 0, none⟩) (k + 1 + (ivs.length - (k + 2))) cap)) base sb src g cap (addIv n ivs) ∧ Below base w (W4.setCell ⟨sb, 1, none⟩ (.slice (some ⟨g, 0, none⟩) (k + 1 + (ivs.length - (k + 2))) cap))) := ⟨by rw [hdrop.out]; exact hfin, hbfin⟩
                    clear hfin hbfin hW4 HFIN HC HCELLS HEAD hdrop
                    simp only [Act.put, List.setIfInBounds_toArray, List.set_cons_zero, List.set_cons_succ]
                    refine wpAnyL_one (i := 16) (o := { dst := some 175, op := .nilCheck (.tmp 159), type := 0, pos := _, after := _, guard := none }) (by kernel_rfl) rfl rfl (fun K hK => ?_)
                    go_simp
                    refine hK.out _ _ hHeld2 (fun _ => ?_)
                    clear hK K
                    refine wpAnyL_one (i := 17) (o := { dst := some 176, op := .fieldAddr 40 (.tmp 175) 1, type := 0, pos := _, after := _, guard := none }) (by kernel_rfl) rfl rfl (fun K hK => ?_)
                    go_simp
                    refine hK.out _ _ hHeld2 (fun _ => ?_)
                    clear hK K
                    refine wpAnyL_last (o := { dst := none, op := .store 36 (.tmp 176) (.tmp 174), type := 0, pos := _, after := _, guard := none }) (by kernel_rfl) rfl rfl (by kernel_rfl) (fun K hK => ?_)
                    go_simp
                    refine hK.out _ _ ?_
                    clear hK K
                    refine NoPanic.normal ?_
                    go_wp2_with fail
                    go_end0
                    exact ⟨rfl, ⟨g, cap, HF4.out.1⟩, HF4.out.2⟩
                · have t5 : (f2 == n + 1) = false := by rw [beq_eq_false_iff_ne]; exact hme
                  have HF : Hid (SetAt (w.setCell ⟨g, k * 2 + 1, none⟩ (.int .u64 n)) base sb src g cap (addIv n ivs) ∧ Below base w (w.setCell ⟨g, k * 2 + 1, none⟩ (.int .u64 n))) := by
                    refine ⟨?_, hbel2⟩
                    rw [addIv_last hlt HA.out (by rw [HE.out.2]; have := HLA.out; omega) (by rw [HE.out.1]; exact HLA.out) (fun _ => by rw [HE2.out.1]; exact hme), HE.out.2]
                    exact hs2
                  clear hs2 hbel2
                  go_wp2_with fail
                  go_end0
                  exact ⟨rfl, ⟨g, cap, HF.out.1⟩, HF.out.2⟩
              · have HF : Hid (SetAt (w.setCell ⟨g, k * 2 + 1, none⟩ (.int .u64 n)) base sb src g cap (addIv n ivs) ∧ Below base w (w.setCell ⟨g, k * 2 + 1, none⟩ (.int .u64 n))) := by
                  refine ⟨?_, hbel2⟩
                  rw [addIv_last hlt HA.out (by rw [HE.out.2]; have := HLA.out; omega) (by rw [HE.out.1]; exact HLA.out) (fun h => absurd h hk1), HE.out.2]
                  exact hs2
                have d2 := hs2.head
                simp only [List.length_set] at d2
                have t4 : decide ((k : Int) + 1 < (ivs.length : Int)) = false := by simp; omega
                clear hs2 hbel2
                go_wp2_with fail
                go_end0
                exact ⟨rfl, ⟨g, cap, HF.out.1⟩, HF.out.2⟩
            · have t3 : (n == l + 1) = false := by rw [beq_eq_false_iff_ne]; exact hla
              have HF : Hid (SetAt w base sb src g cap (addIv n ivs)) := by
                rw [addIv_same hlt HA.out (by rw [HE.out.2]; omega) (by rw [HE.out.1]; omega)]
                exact HL.out.1
              go_wp2_with fail
              go_end0
              exact ⟨rfl, ⟨g, cap, HF.out⟩, Below.refl _ _⟩
    · have HL : Hid (SetAt w base sb src g cap ivs ∧ CanonFrom (-1) ivs) := ⟨h, hc⟩
      clear h hc
      have hkl : decide ((k : Int) < (ivs.length : Int)) = false := by simp; omega
      have hke : ((k : Int) == (ivs.length : Int)) = true := by rw [beq_iff_eq]; omega
      go_wp2_with (at_builtin; (refine wpList_append_lies _ rfl (.tmp 52) (.tmp 54) 36 rfl base 38 i0 _ 2 16 Try.underlying36 hi0 hz0 hz1 hz2 rfl (by omega) (.slice (some ⟨g, 0, none⟩) ivs.length cap) ivs.length (flat ivs) (by rfl) (HL.out.1.own.alloc _) ⟨w.heap.size, 0, none⟩ 1 1 [.int .u64 0, .int .u64 0] (by rfl) (by rfl) (World.news_of_block (cs := #[.int .u64 0, .int .u64 0]) (t := 38) (fr := (0, 0)) (heap_alloc_new w _)) (by simp [Value.oneCell']) (by omega) (by unfold maxLen; omega) (by omega) (by simp; omega) (w.heap.size + 1) (by simp) ?_); intro g' cap' w1 hown1 hgrow hat hlt1; have hd1 := (HL.out.1.head_grown hgrow).1; have hd2 := (HL.out.1.head_grown hgrow).2)
      have hset := HL.out.1.grown (w1 := w1) (g' := g') (cap' := cap') (H := w.heap.size + 1) (ivs' := ivs ++ [(0, 0)]) (by omega) (by simpa [flat_append, flat] using hown1) hgrow hat
      have hbel := HL.out.1.below_grown (Below.refl base w) hgrow (.slice (some ⟨g', 0, none⟩) (ivs.length + 1) cap')
      simp only [List.length_append, List.length_singleton] at hset
      generalize (w1.setCell ⟨sb, 1, none⟩ (.slice (some ⟨g', 0, none⟩) (ivs.length + 1) cap')) = W at hset hbel ⊢
      clear hown1 hgrow hat hlt1 hd1 hd2
      obtain ⟨cur, hcur, hgb, hcap, hcapm, hcs, _⟩ := hset.cur
      simp only [List.length_append, List.length_singleton] at hcap
      have hhead := hset.head
      simp only [List.length_append, List.length_singleton] at hhead
      have HS : Hid (SetAt W base sb src g' cap' (ivs ++ [(0, 0)]) ∧ Below base w W ∧ W.heap[g']? = some (.cells cur 38 (0, 0))) := ⟨hset, hbel, hcur⟩
      have hnesb : some g' ≠ some sb := by simpa using hset.ne
      have hltsb : sb < W.heap.size := hset.lt.1
      have hbW : base ≤ W.heap.size := by have := hset.low; omega
      clear hset hbel hcur
      have hk2 : (k : Int) + 1 ≤ (ivs.length : Int) + 1 := by omega
      have hk3 : (k : Int) ≤ (ivs.length : Int) + 1 := by omega
      have hk4 : (k : Int) ≤ (ivs.length : Int) := by omega
      have hk5 : IntKind.i64.wrap ((k : Int) + 1) = (k : Int) + 1 := by rw [IntKind.wrap_i64]; omega
      have hk6 : (0 : Int) ≤ (k : Int) + 1 := by omega
      go_region_held3 (fun w' => w'.cell? ⟨sb, 1, none⟩ = some (.slice (some ⟨g', 0, none⟩) (ivs.length + 1) cap'))
        (first | go_keep | (rw [hgr.cell_far _ (by simp; omega) (Ne.symm hnesb)]; assumption))
        ((refine step_copy_wide rfl (.tmp 64) (.tmp 70) 36 36 rfl 38 2 Try.underlying36 size38 _ _ _ _ _ _ (by rfl) (by rfl) g' ((k + 1) * 2) cur 38 (by exact HS.out.2.2) (flat (ivs.drop k)) (ivs.length - k) (by show _ = min _ _; omega) (by rw [flat_length, List.length_drop]) (by intro h0; refine ⟨by first | rfl | (rw [if_neg (by omega)]; done) | (rw [if_neg (by omega)]; rfl), ⟨g', k * 2, none⟩, by first | rfl | (rw [if_neg (by omega)]; done) | (rw [if_neg (by omega)]; rfl), ?_⟩; exact HS.out.1.tail_cells k (by omega)) (by rw [flat_length, List.length_drop, hcs]; omega) (flat_one _) ?_; intro w3 hgr hh3 hs3))
      have hgr' : W.grownBy w3 (some g') := ⟨hgr.os, hgr.tape, hgr.output, hgr.size, hgr.block⟩
      obtain ⟨y, hset3⟩ := HS.out.1.shifted (k := k) (by omega) HS.out.2.2 hgr' hh3
      have hbel3 : Below base w w3 := HS.out.2.1.grown hgr' hbW (fun j hj => by obtain rfl := Option.some.inj hj; exact hgb)
      clear hgr hgr' hh3 hs3 HS
      have hlen3 : (ivs.take k ++ y :: ivs.drop k).length = ivs.length + 1 := by simp; omega
      have hkl3 : k < (ivs.take k ++ y :: ivs.drop k).length := by omega
      have d1 := hset3.head
      rw [hlen3] at d1
      have d2 := hset3.fst hkl3
      have d3 := hset3.snd hkl3
      have d4 := hset3.free (k * 2)
      have d5 := hset3.free (k * 2 + 1)
      have hfin := hset3.setBoth hkl3 n n
      have hbfin : Below base w ((w3.setCell ⟨g', k * 2, none⟩ (.int .u64 n)).setCell ⟨g', k * 2 + 1, none⟩ (.int .u64 n)) := (hbel3.setCell hgb _).setCell hgb _
      have HF : Hid (SetAt ((w3.setCell ⟨g', k * 2, none⟩ (.int .u64 n)).setCell ⟨g', k * 2 + 1, none⟩ (.int .u64 n)) base sb src g' cap' (addIv n ivs) ∧ Below base w ((w3.setCell ⟨g', k * 2, none⟩ (.int .u64 n)).setCell ⟨g', k * 2 + 1, none⟩ (.int .u64 n))) := by
        refine ⟨?_, ?_⟩
        · rw [addIv_insert hk HA.out (fun h => absurd h hlt)]
          have e : (ivs.take k ++ y :: ivs.drop k).set k (n, n) = ivs.take k ++ (n, n) :: ivs.drop k := by
            rw [List.set_append_right _ _ (by simp; omega)]
            simp [Nat.min_eq_left hk]
          rw [← e]; exact hfin
        · exact hbfin
      clear hfin hbfin hset3 hbel3 hkl3
      go_wp2_with fail
      all_goals
        go_end0
        exact ⟨rfl, ⟨g', cap', HF.out.1⟩, HF.out.2⟩
end Go.Proofs.Qxb6630740a

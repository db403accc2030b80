/- Graphs, plain: the nodes of keys are trees. -/
import Derived.Test.YtoigpackhninoaaGreatDoorGrSame
namespace Go.Proofs.YtoigpackhninoaaGreatDoor
namespace Gr
theorem cfold_get (L : List Nat) : ∀ (l : List Nat) (x : Nat), x < l.length → (L.foldl cstep l).getD x 0 = l.getD x 0 + L.count x := by
  induction L with
  | nil => intro l x _; simp
  | cons y L ih =>
    intro l x hx
    rw [List.foldl_cons, ih (cstep l y) x (by unfold cstep; simpa using hx)]
    unfold cstep
    by_cases h : y = x
    · subst h
      rw [getD_set_self _ _ _ _ hx]
      simp; omega
    · rw [getD_set_ne _ _ _ _ _ h, List.count_cons_of_ne h]
theorem counts_get {ns : List Nd} {root x : Nat} (hx : x < ns.length) : (counts ns root).getD x 0 = (if x = root then 1 else 0) + (refs ns).count x := by
  unfold counts
  rw [cfold_get _ _ _ (by unfold cstep; simpa using hx)]
  congr 1
  unfold cstep
  have e : ∀ y, (List.replicate ns.length 0).getD y 0 = 0 := fun y => by simp [List.getD_eq_getElem?_getD, List.getElem?_replicate]; split <;> rfl
  by_cases h : x = root
  · subst h
    rw [getD_set_self _ _ _ _ (by simpa using hx), e, if_pos rfl]
  · rw [getD_set_ne _ _ _ _ _ (Ne.symm h), e, if_neg h]
theorem refs_append (a b : List Nd) : refs (a ++ b) = refs a ++ refs b := by unfold refs; rw [List.flatMap_append]
theorem refs_mem {ns : List Nd} {a b : Nat} (ha : a < ns.length) (hb : b ∈ succ ns a) : b ∈ refs ns := by
  unfold succ at hb
  rw [List.getElem?_eq_getElem ha] at hb
  exact List.mem_flatMap.2 ⟨_, List.getElem_mem ha, hb⟩
theorem refs_two {ns : List Nd} {a p b : Nat} (hap : p < a) (ha : a < ns.length) (h1 : b ∈ succ ns a) (h2 : b ∈ succ ns p) : 2 ≤ (refs ns).count b := by
  have e : refs ns = refs (ns.take a) ++ refs (ns.drop a) := by rw [← refs_append, List.take_append_drop]
  rw [e, List.count_append]
  have c1 : b ∈ refs (ns.take a) := by
    unfold succ at h2
    rw [List.getElem?_eq_getElem (by omega)] at h2
    refine List.mem_flatMap.2 ⟨ns[p], ?_, h2⟩
    rw [List.mem_take_iff_getElem]
    exact ⟨p, by omega, rfl⟩
  have c2 : b ∈ refs (ns.drop a) := by
    unfold succ at h1
    rw [List.getElem?_eq_getElem ha] at h1
    refine List.mem_flatMap.2 ⟨ns[a], ?_, h1⟩
    rw [List.mem_drop_iff_getElem]
    exact ⟨0, by omega, by simp⟩
  have := List.count_pos_iff.2 c1
  have := List.count_pos_iff.2 c2
  omega
section
variable {ns : List Nd} {root : Nat}
theorem Reach.last {sc : Nat → List Nat} {a b : Nat} (h : Reach sc a b) : a = b ∨ ∃ p, Reach sc a p ∧ b ∈ sc p := by
  induction h with
  | refl => exact .inl rfl
  | step h1 h2 ih =>
    rcases ih with rfl | ⟨p, h3, h4⟩
    · exact .inr ⟨_, .refl _, h1⟩
    · exact .inr ⟨p, .step h1 h3, h4⟩
theorem no_cycle (hr : Refs ns) (hroot : root < ns.length) (hall : ∀ v, v < ns.length → Reach (succ ns) root v) (hone : ∀ x, x < ns.length → mkd (inKeys ns) x = true → (counts ns root).getD x 0 = 1) {i x : Nat} (hi : i < ns.length) (hk : mkd (inKeys ns) i = true) (hx : x ∈ succ ns i) : ¬ Reach (succ ns) x i := by
  intro hc
  have hlt : ∀ a, a < ns.length → ∀ b, Reach (succ ns) a b → b < ns.length := fun a ha b h => h.closed (p := fun a => a < ns.length) (fun a _ b hb => hr.succ a b hb) ha
  have hin : ∀ j, Reach (succ ns) i j → mkd (inKeys ns) j = true := fun j hj => by
    obtain ⟨k, h1, h2⟩ := (inKeys_iff hr i).1 hk
    exact (inKeys_iff hr j).2 ⟨k, h1, h2.trans hj⟩
  -- a node of the cycle has an edge from the cycle
  have hpre : ∀ j, Reach (succ ns) i j → Reach (succ ns) j i → ∃ p, Reach (succ ns) i p ∧ Reach (succ ns) p i ∧ j ∈ succ ns p := by
    intro j h1 h2
    have h3 : Reach (succ ns) x j := hc.trans h1
    rcases h3.last with h4 | ⟨p, h4, h5⟩
    · subst h4; exact ⟨i, .refl _, .refl _, hx⟩
    · exact ⟨p, .step hx h4, .step h5 h2, h5⟩
  have hnot : ¬ (Reach (succ ns) i i ∧ Reach (succ ns) i i) := by
    have key : ∀ v, Reach (succ ns) root v → ¬ (Reach (succ ns) i v ∧ Reach (succ ns) v i) := by
      intro v hv
      refine hv.closed (p := fun v => ¬ (Reach (succ ns) i v ∧ Reach (succ ns) v i)) ?_ ?_
      · rintro a ha b hb ⟨h1, h2⟩
        obtain ⟨p, h3, h4, h5⟩ := hpre b h1 h2
        have hbl := hr.succ a b hb
        have hne : a ≠ p := fun e => ha (e ▸ ⟨h3, h4⟩)
        have hpl := hlt i hi p h3
        have hal : a < ns.length := by
          unfold succ at hb
          rcases Nat.lt_or_ge a ns.length with h | h
          · exact h
          · rw [List.getElem?_eq_none h] at hb; cases hb
        have h6 := hone b hbl (hin b h1)
        rw [counts_get hbl] at h6
        have : 2 ≤ (refs ns).count b := by
          rcases Nat.lt_or_gt_of_ne hne with h | h
          · exact refs_two h hpl h5 hb
          · exact refs_two h hal hb h5
        omega
      · rintro ⟨h1, h2⟩
        obtain ⟨p, h3, h4, h5⟩ := hpre root h1 h2
        have h6 := hone root hroot (hin root h1)
        rw [counts_get hroot, if_pos rfl] at h6
        have := List.count_pos_iff.2 (refs_mem (hlt i hi p h3) h5)
        omega
    exact key i (hall i hi)
  exact hnot ⟨.refl _, .refl _⟩
open Classical in
theorem tall_of (hr : Refs ns) (hroot : root < ns.length) (hall : ∀ v, v < ns.length → Reach (succ ns) root v) (hone : ∀ x, x < ns.length → mkd (inKeys ns) x = true → (counts ns root).getD x 0 = 1) : ∀ (f i : Nat), i < ns.length → mkd (inKeys ns) i = true → (List.range ns.length).countP (fun j => decide (Reach (succ ns) i j)) ≤ f → Tall ns f i := by
  intro f
  induction f with
  | zero =>
    intro i hi _ h
    have : 0 < (List.range ns.length).countP (fun j => decide (Reach (succ ns) i j)) := List.countP_pos_iff.2 ⟨i, List.mem_range.2 hi, by simpa using Reach.refl i⟩
    omega
  | succ f ih =>
    intro i hi hk h x hx
    have hxl := hr.succ i x hx
    have hxk : mkd (inKeys ns) x = true := by
      obtain ⟨k, h1, h2⟩ := (inKeys_iff hr i).1 hk
      exact (inKeys_iff hr x).2 ⟨k, h1, h2.trans (.one hx)⟩
    refine ih x hxl hxk ?_
    have := countP_lt (fun j => decide (Reach (succ ns) x j)) (fun j => decide (Reach (succ ns) i j)) (List.range ns.length) (fun j _ hj => by simpa using Reach.step hx (by simpa using hj)) i (List.mem_range.2 hi) (by simpa using no_cycle hr hroot hall hone hi hk hx) (by simpa using Reach.refl i)
    omega
theorem keys_tall (hr : Refs ns) (hroot : root < ns.length) (hall : ∀ v, v < ns.length → Reach (succ ns) root v) (hone : ∀ x, x < ns.length → mkd (inKeys ns) x = true → (counts ns root).getD x 0 = 1) : ∀ k ∈ allKeys ns, k < ns.length ∧ Tall ns ns.length k := by
  intro k hk
  have hkl : k < ns.length := by
    obtain ⟨y, hy, hky⟩ := List.mem_flatMap.1 hk
    exact hr y hy k (List.mem_append_left _ hky)
  exact ⟨hkl, tall_of hr hroot hall hone _ k hkl ((inKeys_iff hr k).2 ⟨k, hk, .refl _⟩) (Nat.le_trans List.countP_le_length (by simp))⟩
end
end Gr
end Go.Proofs.YtoigpackhninoaaGreatDoor

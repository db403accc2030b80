/- Insertion sort and runs: plain. -/
import Derived.Test.YtnnicjbceadnbaaSort5
namespace Go.Proofs.Ytnnicjbceadnbaa
open Sp (Ed Ce chk)
/-- the place that insertion finds. -/
theorem insAt_at (P Z R : List Ed) (x : Ed) (t : Nat) (ht : t ≤ Z.length) : ∃ s, s ≤ t ∧ Sp.insAt ltEd x (P ++ Z ++ R) P.length (P.length + t) = P.length + s ∧
    (s = 0 ∨ ∃ z, Z[s - 1]? = some z ∧ leEd z x) ∧ (s = t ∨ ∃ z, Z[s]? = some z ∧ leEd x z) := by
  induction t with
  | zero =>
    refine ⟨0, Nat.le_refl _, ?_, .inl rfl, .inl rfl⟩
    rw [Nat.add_zero]
    cases h : P.length with
    | zero => rfl
    | succ n => rw [Sp.insAt, if_neg (by omega)]
  | succ t ih =>
    have hz : (P ++ Z ++ R)[P.length + t]? = some Z[t] := by rw [get_mid (by omega), List.getElem?_eq_getElem (by omega)]
    rw [← Nat.add_assoc, Sp.insAt, hz]
    by_cases hlt : ltEd x Z[t] = true
    · rw [if_pos ⟨by omega, by simp [hlt]⟩]
      obtain ⟨s, h1, h2, h3, h4⟩ := ih (by omega)
      refine ⟨s, by omega, h2, h3, ?_⟩
      rcases h4 with h4 | h4
      · refine .inr ⟨Z[t], by rw [h4]; exact List.getElem?_eq_getElem (by omega), ?_⟩
        have := (ltEd_iff x Z[t]).1 hlt
        unfold leEd; omega
      · exact .inr h4
    · rw [if_neg (by simp [hlt])]
      refine ⟨t + 1, Nat.le_refl _, by omega, .inr ⟨Z[t], by rw [Nat.add_sub_cancel]; exact List.getElem?_eq_getElem (by omega), ?_⟩, .inl rfl⟩
      rw [ltEd_iff] at hlt
      unfold leEd; omega
theorem put_mid (P Z R : List Ed) (x : Ed) (s : Nat) (hs : s ≤ Z.length) : Sp.put (P ++ Z ++ x :: R) (P.length + Z.length) (P.length + s) = P ++ (Z.take s ++ x :: Z.drop s) ++ R := by
  have hx : (P ++ Z ++ x :: R)[P.length + Z.length]? = some x := by
    rw [List.getElem?_append_right (by rw [List.length_append]; omega), List.length_append, Nat.sub_self]; rfl
  unfold Sp.put
  rw [hx]
  simp only
  have t1 : (P ++ Z ++ x :: R).take (P.length + s) = P ++ Z.take s := by
    rw [List.append_assoc, List.take_append, List.take_of_length_le (by omega), Nat.add_sub_cancel_left, List.take_append_of_le_length hs]
  have d1 : ((P ++ Z ++ x :: R).drop (P.length + s)).take (P.length + Z.length - (P.length + s)) = Z.drop s := by
    rw [List.append_assoc, List.drop_append, List.drop_eq_nil_of_le (by omega), Nat.add_sub_cancel_left, List.nil_append, List.drop_append_of_le_length hs, List.take_append_of_le_length (by rw [List.length_drop]; omega), List.take_of_length_le (by rw [List.length_drop]; omega)]
  have d2 : (P ++ Z ++ x :: R).drop (P.length + Z.length + 1) = R := by
    rw [List.drop_append, List.drop_eq_nil_of_le (by rw [List.length_append]; omega), List.nil_append, List.length_append, show P.length + Z.length + 1 - (P.length + Z.length) = 1 from by omega]; rfl
  rw [t1, d1, d2]
  simp only [List.append_assoc, List.cons_append, List.nil_append]
theorem isortN_mid (P X S : List Ed) (m : Nat) (hm : m < X.length) : ∃ Z, Sp.isortN ltEd P.length m (P ++ X ++ S) = P ++ Z ++ (X.drop (m + 1) ++ S) ∧ Z.Perm (X.take (m + 1)) ∧ Srt Z := by
  induction m with
  | zero =>
    refine ⟨X.take 1, ?_, List.Perm.refl _, ?_⟩
    · rw [Sp.isortN]; simp only [List.append_assoc]; rw [← List.append_assoc (X.take 1), List.take_append_drop]
    · have : (X.take 1).length = 1 := by rw [List.length_take]; omega
      match h : X.take 1, this with
      | [z], _ => exact List.pairwise_singleton _ _
  | succ m ih =>
    obtain ⟨Z, h1, h2, h3⟩ := ih (by omega)
    have hZ : Z.length = m + 1 := by rw [h2.length_eq, List.length_take]; omega
    rw [Sp.isortN, h1]
    have hd : X.drop (m + 1) = X[m + 1] :: X.drop (m + 2) := List.drop_eq_getElem_cons hm
    have e : P ++ Z ++ (X.drop (m + 1) ++ S) = P ++ Z ++ X[m + 1] :: (X.drop (m + 2) ++ S) := by rw [hd]; rfl
    rw [e]
    obtain ⟨s, s1, s2, s3, s4⟩ := insAt_at P Z (X[m + 1] :: (X.drop (m + 2) ++ S)) X[m + 1] Z.length (Nat.le_refl _)
    have hx : (P ++ Z ++ X[m + 1] :: (X.drop (m + 2) ++ S))[P.length + Z.length]? = some X[m + 1] := by
      rw [List.getElem?_append_right (by rw [List.length_append]; omega), List.length_append, Nat.sub_self]; rfl
    refine ⟨Z.take s ++ X[m + 1] :: Z.drop s, ?_, ?_, ins_left h3 (by omega) s3 s4⟩
    · rw [show P.length + 1 + m = P.length + Z.length from by omega]
      unfold Sp.insK
      rw [hx]
      simp only
      rw [s2, put_mid P Z _ _ s (by omega)]
    · refine List.perm_middle.trans ?_
      rw [List.take_append_drop, List.take_succ_eq_append_getElem hm]
      exact ((List.Perm.cons _ h2).trans (List.perm_append_comm (l₁ := [X[m + 1]])))
/-- the insertion sort of a part. -/
theorem isort_mid (P X S : List Ed) : ∃ Z, Sp.isort ltEd P.length (P.length + X.length) (P ++ X ++ S) = P ++ Z ++ S ∧ Z.Perm X ∧ Srt Z := by
  unfold Sp.isort
  by_cases h0 : X.length = 0
  · have : X = [] := List.eq_nil_of_length_eq_zero h0
    subst this
    refine ⟨[], ?_, List.Perm.refl _, List.Pairwise.nil⟩
    rw [show P.length + ([] : List Ed).length - (P.length + 1) = 0 from by simp]
    rfl
  · obtain ⟨Z, h1, h2, h3⟩ := isortN_mid P X S (X.length - 1) (by omega)
    refine ⟨Z, ?_, ?_, h3⟩
    · rw [show P.length + X.length - (P.length + 1) = X.length - 1 from by omega, h1, List.drop_eq_nil_of_le (by omega), List.nil_append]
    · rw [List.take_of_length_le (by omega)] at h2; exact h2
/-- a part of a list. -/
def ch (c i : Nat) (l : List Ed) : List Ed := (l.drop i).take c
theorem ch_left (P Q : List Ed) (c i : Nat) (h : i + c ≤ P.length) : ch c i (P ++ Q) = ch c i P := by
  unfold ch
  rw [List.drop_append_of_le_length (by omega), List.take_append_of_le_length (by rw [List.length_drop]; omega)]
theorem ch_right (P Q : List Ed) (c i : Nat) (h : P.length ≤ i) : ch c i (P ++ Q) = ch c (i - P.length) Q := by
  unfold ch
  rw [List.drop_append, List.drop_eq_nil_of_le h, List.nil_append]
theorem ch_here (P Z S : List Ed) (c : Nat) (h : Z.length = c) : ch c P.length (P ++ Z ++ S) = Z := by
  rw [List.append_assoc, ch_right _ _ _ _ (Nat.le_refl _), Nat.sub_self]
  unfold ch
  rw [List.drop_zero, List.take_append_of_le_length (by omega), List.take_of_length_le (by omega)]
theorem ch_last (P Z : List Ed) (c : Nat) (h : Z.length ≤ c) : ch c P.length (P ++ Z) = Z := by
  rw [ch_right _ _ _ _ (Nat.le_refl _), Nat.sub_self]
  unfold ch
  rw [List.drop_zero, List.take_of_length_le (by omega)]
theorem ch_none (c i : Nat) (l : List Ed) (h : l.length ≤ i) : ch c i l = [] := by
  unfold ch; rw [List.drop_eq_nil_of_le h, List.take_nil]
theorem cut_at (l : List Ed) (a c : Nat) : l = l.take a ++ ch c a l ++ l.drop (a + c) := by
  unfold ch
  rw [List.append_assoc, ← List.drop_drop, List.take_append_drop, List.take_append_drop]
/-- what holds of the list while the parts of c places are sorted, up to j of them. -/
structure RunsTo (l0 l : List Ed) (c j : Nat) : Prop where
  perm : l.Perm l0
  low : ∀ k, k < j → Srt (ch c (c * k) l)
/-- while the parts are merged by pairs. -/
structure Merg (l0 l : List Ed) (c j : Nat) : Prop where
  perm : l.Perm l0
  low : ∀ k, k < j → Srt (ch (2 * c) (2 * c * k) l)
  high : ∀ k, 2 * j ≤ k → Srt (ch c (c * k) l)
theorem le_mul_of {c k j : Nat} (h : k < j) : c * k + c ≤ c * j := by
  have : c * (k + 1) ≤ c * j := Nat.mul_le_mul_left _ h
  rw [Nat.mul_add, Nat.mul_one] at this; exact this
theorem RunsTo.zero (l : List Ed) (c : Nat) : RunsTo l l c 0 := ⟨List.Perm.refl _, fun k hk => absurd hk (by omega)⟩
/-- one more part is sorted. -/
theorem RunsTo.next {l0 l : List Ed} {c j : Nat} (h : RunsTo l0 l c j) (hl : c * j + c ≤ l.length) : ∃ P X S, l = P ++ X ++ S ∧ P.length = c * j ∧ X.length = c ∧
    ∀ Z, Z.Perm X → Srt Z → RunsTo l0 (P ++ Z ++ S) c (j + 1) := by
  refine ⟨l.take (c * j), ch c (c * j) l, l.drop (c * j + c), cut_at l _ _, by rw [List.length_take]; omega, by unfold ch; rw [List.length_take, List.length_drop]; omega, fun Z hZ sZ => ⟨?_, fun k hk => ?_⟩⟩
  · have hp : (l.take (c * j) ++ Z ++ l.drop (c * j + c)).Perm l := by
      have h1 : (l.take (c * j) ++ Z ++ l.drop (c * j + c)).Perm (l.take (c * j) ++ ch c (c * j) l ++ l.drop (c * j + c)) := List.Perm.append_right _ (List.Perm.append_left _ hZ)
      rwa [← cut_at l (c * j) c] at h1
    exact hp.trans h.perm
  · have hPl : (l.take (c * j)).length = c * j := by rw [List.length_take]; omega
    have hZl : Z.length = c := by rw [hZ.length_eq]; unfold ch; rw [List.length_take, List.length_drop]; omega
    by_cases hkj : k < j
    · have := le_mul_of (c := c) hkj
      rw [List.append_assoc, ch_left _ _ _ _ (by omega)]
      have h2 := h.low k hkj
      rw [← List.take_append_drop (c * j) l, ch_left _ _ _ _ (by omega)] at h2
      exact h2
    · obtain rfl : k = j := by omega
      have h3 := ch_here (l.take (c * k)) Z (l.drop (c * k + c)) c hZl
      rw [hPl] at h3
      rw [h3]; exact sZ
/-- the last part. -/
theorem RunsTo.last {l0 l : List Ed} {c j : Nat} (h : RunsTo l0 l c j) (h1 : c * j ≤ l.length) (h2 : l.length < c * j + c) : ∃ P X, l = P ++ X ∧ P.length = c * j ∧ P.length + X.length = l.length ∧
    ∀ Z, Z.Perm X → Srt Z → Merg l0 (P ++ Z) c 0 := by
  have hPl : (l.take (c * j)).length = c * j := by rw [List.length_take]; omega
  refine ⟨l.take (c * j), l.drop (c * j), (List.take_append_drop _ _).symm, hPl, by rw [hPl, List.length_drop]; omega, fun Z hZ sZ => ⟨?_, fun k hk => absurd hk (by omega), fun k _ => ?_⟩⟩
  · have h3 := List.Perm.append_left (l.take (c * j)) hZ
    rw [List.take_append_drop] at h3
    exact h3.trans h.perm
  · have hZl : Z.length = l.length - c * j := by rw [hZ.length_eq, List.length_drop]
    rcases Nat.lt_trichotomy k j with hk | hk | hk
    · have := le_mul_of (c := c) hk
      rw [ch_left _ _ _ _ (by omega)]
      have h3 := h.low k hk
      rw [← List.take_append_drop (c * j) l, ch_left _ _ _ _ (by omega)] at h3
      exact h3
    · subst hk
      have h3 := ch_last (l.take (c * k)) Z c (by omega)
      rw [hPl] at h3
      rw [h3]; exact sZ
    · have := le_mul_of (c := c) hk
      rw [ch_none _ _ _ (by rw [List.length_append]; omega)]
      exact List.Pairwise.nil
/-- two parts are merged. -/
theorem Merg.next {l0 l : List Ed} {c j : Nat} (h : Merg l0 l c j) (hl : 2 * c * j + 2 * c ≤ l.length) : ∃ P X Y S, l = P ++ X ++ Y ++ S ∧ P.length = 2 * c * j ∧ X.length = c ∧ Y.length = c ∧ Srt X ∧ Srt Y ∧
    ∀ Z, Z.Perm (X ++ Y) → Srt Z → Merg l0 (P ++ Z ++ S) c (j + 1) := by
  have ea : 2 * c * j = c * (2 * j) := by rw [Nat.mul_comm 2 c, Nat.mul_assoc]
  have eb : c * (2 * j) + c = c * (2 * j + 1) := by rw [Nat.mul_add, Nat.mul_one]
  have hX := h.high (2 * j) (Nat.le_refl _)
  have hY := h.high (2 * j + 1) (by omega)
  have hcut : l = l.take (2 * c * j) ++ ch c (2 * c * j) l ++ ch c (2 * c * j + c) l ++ l.drop (2 * c * j + c + c) := by
    have e1 := cut_at l (2 * c * j) c
    have e2 := cut_at (l.drop (2 * c * j + c)) 0 c
    rw [List.take_zero, List.nil_append, Nat.zero_add, List.drop_drop] at e2
    unfold ch at e2
    rw [List.drop_zero] at e2
    rw [List.append_assoc, show ch c (2 * c * j + c) l = (l.drop (2 * c * j + c)).take c from rfl, ← e2, ← e1]
  have hPl : (l.take (2 * c * j)).length = 2 * c * j := by rw [List.length_take]; omega
  have hXl : (ch c (2 * c * j) l).length = c := by unfold ch; rw [List.length_take, List.length_drop]; omega
  have hYl : (ch c (2 * c * j + c) l).length = c := by unfold ch; rw [List.length_take, List.length_drop]; omega
  refine ⟨l.take (2 * c * j), ch c (2 * c * j) l, ch c (2 * c * j + c) l, l.drop (2 * c * j + c + c), hcut, hPl, hXl, hYl, by rw [ea]; exact hX, by rw [ea, eb]; exact hY, fun Z hZ sZ => ⟨?_, fun k hk => ?_, fun k hk => ?_⟩⟩
  · have h1 : (l.take (2 * c * j) ++ Z ++ l.drop (2 * c * j + c + c)).Perm (l.take (2 * c * j) ++ (ch c (2 * c * j) l ++ ch c (2 * c * j + c) l) ++ l.drop (2 * c * j + c + c)) := List.Perm.append_right _ (List.Perm.append_left _ hZ)
    rw [← List.append_assoc, ← hcut] at h1
    exact h1.trans h.perm
  · have hZl : Z.length = 2 * c := by rw [hZ.length_eq, List.length_append]; omega
    by_cases hkj : k < j
    · have := le_mul_of (c := 2 * c) hkj
      rw [List.append_assoc, ch_left _ _ _ _ (by omega)]
      have h2 := h.low k hkj
      rw [← List.take_append_drop (2 * c * j) l, ch_left _ _ _ _ (by omega)] at h2
      exact h2
    · obtain rfl : k = j := by omega
      have h3 := ch_here (l.take (2 * c * k)) Z (l.drop (2 * c * k + c + c)) (2 * c) hZl
      rw [hPl] at h3
      rw [h3]; exact sZ
  · have hZl : Z.length = 2 * c := by rw [hZ.length_eq, List.length_append]; omega
    have h2 := h.high k (by omega)
    have h4 : c * (2 * j) + c + c ≤ c * k := by
      have h5 : c * (2 * j + 2) ≤ c * k := Nat.mul_le_mul_left _ (by omega)
      rw [Nat.mul_add] at h5; omega
    rw [ch_right _ _ _ _ (by rw [List.length_append]; omega), List.length_append, hPl, hZl]
    rw [← List.take_append_drop (2 * c * j + c + c) l, ch_right _ _ _ _ (by rw [List.length_take]; omega), List.length_take, Nat.min_eq_left (by omega)] at h2
    rw [show c * k - (2 * c * j + 2 * c) = c * k - (2 * c * j + c + c) from by omega]
    exact h2
/-- the last two parts. -/
theorem Merg.last {l0 l : List Ed} {c j : Nat} (h : Merg l0 l c j) (h1 : 2 * c * j + c < l.length) (h2 : l.length < 2 * c * j + 2 * c) : ∃ P X Y, l = P ++ X ++ Y ∧ P.length = 2 * c * j ∧ X.length = c ∧ P.length + X.length + Y.length = l.length ∧ Srt X ∧ Srt Y ∧
    ∀ Z, Z.Perm (X ++ Y) → Srt Z → Merg l0 (P ++ Z) (2 * c) 0 := by
  have ea : 2 * c * j = c * (2 * j) := by rw [Nat.mul_comm 2 c, Nat.mul_assoc]
  have eb : c * (2 * j) + c = c * (2 * j + 1) := by rw [Nat.mul_add, Nat.mul_one]
  have hX := h.high (2 * j) (Nat.le_refl _)
  have hY := h.high (2 * j + 1) (by omega)
  have hcut := cut_at l (2 * c * j) c
  have hPl : (l.take (2 * c * j)).length = 2 * c * j := by rw [List.length_take]; omega
  have hXl : (ch c (2 * c * j) l).length = c := by unfold ch; rw [List.length_take, List.length_drop]; omega
  refine ⟨l.take (2 * c * j), ch c (2 * c * j) l, l.drop (2 * c * j + c), hcut, hPl, hXl, by rw [hPl, hXl, List.length_drop]; omega, by rw [ea]; exact hX, ?_, fun Z hZ sZ => ⟨?_, fun k hk => absurd hk (by omega), fun k _ => ?_⟩⟩
  · rw [ea, eb]
    unfold ch at hY
    rw [List.take_of_length_le (by rw [List.length_drop]; omega)] at hY
    exact hY
  · have h3 : (l.take (2 * c * j) ++ Z).Perm (l.take (2 * c * j) ++ (ch c (2 * c * j) l ++ l.drop (2 * c * j + c))) := List.Perm.append_left _ hZ
    rw [← List.append_assoc, ← hcut] at h3
    exact h3.trans h.perm
  · have hZl : Z.length = l.length - 2 * c * j := by rw [hZ.length_eq, List.length_append, hXl, List.length_drop]; omega
    rcases Nat.lt_trichotomy k j with hk | hk | hk
    · have := le_mul_of (c := 2 * c) hk
      rw [ch_left _ _ _ _ (by omega)]
      have h3 := h.low k hk
      rw [← List.take_append_drop (2 * c * j) l, ch_left _ _ _ _ (by omega)] at h3
      exact h3
    · subst hk
      have h3 := ch_last (l.take (2 * c * k)) Z (2 * c) (by omega)
      rw [hPl] at h3
      rw [h3]; exact sZ
    · have := le_mul_of (c := 2 * c) hk
      rw [ch_none _ _ _ (by rw [List.length_append]; omega)]
      exact List.Pairwise.nil
/-- no second part is left. -/
theorem Merg.over {l0 l : List Ed} {c j : Nat} (h : Merg l0 l c j) (h1 : l.length ≤ 2 * c * j + c) : Merg l0 l (2 * c) 0 := by
  have ea : 2 * c * j = c * (2 * j) := by rw [Nat.mul_comm 2 c, Nat.mul_assoc]
  refine ⟨h.perm, fun k hk => absurd hk (by omega), fun k _ => ?_⟩
  rcases Nat.lt_trichotomy k j with hk | hk | hk
  · exact h.low k hk
  · subst hk
    have h3 := h.high (2 * k) (Nat.le_refl _)
    rw [ea]
    unfold ch at h3 ⊢
    rw [List.take_of_length_le (by rw [List.length_drop]; omega)] at h3 ⊢
    exact h3
  · have := le_mul_of (c := 2 * c) hk
    rw [ch_none _ _ _ (by omega)]
    exact List.Pairwise.nil
theorem Merg.done {l0 l : List Ed} {c : Nat} (h : Merg l0 l c 0) (h1 : l.length ≤ c) : l.Perm l0 ∧ Srt l := by
  have h2 := h.high 0 (by omega)
  unfold ch at h2
  rw [Nat.mul_zero, List.drop_zero, List.take_of_length_le h1] at h2
  exact ⟨h.perm, h2⟩
end Go.Proofs.Ytnnicjbceadnbaa

/- Stable merging on lists: plain. -/
import Derived.Test.YtnnicjbceadnbaaSort2
namespace Go.Proofs.Ytnnicjbceadnbaa
open Sp (Ed Ce chk)
/-- the order of edits. -/
def leEd (x y : Ed) : Prop := x.f < y.f ∨ (x.f = y.f ∧ x.t ≤ y.t)
theorem ltEd_iff (x y : Ed) : ltEd x y = true ↔ (x.f < y.f ∨ (x.f = y.f ∧ x.t < y.t)) := by
  unfold ltEd cmpEd cmpI
  rw [decide_eq_true_eq]
  by_cases h : x.f = y.f
  · rw [if_pos h]
    by_cases h2 : x.t < y.t
    · rw [if_pos h2]; omega
    · rw [if_neg h2]
      by_cases h3 : y.t < x.t
      · rw [if_pos h3]; omega
      · rw [if_neg h3]; omega
  · rw [if_neg h]
    by_cases h2 : x.f < y.f
    · rw [if_pos h2]; omega
    · rw [if_neg h2]
      by_cases h3 : y.f < x.f
      · rw [if_pos h3]; omega
      · rw [if_neg h3]; omega
theorem cmp_lt (x y : Ed) (h : cmpEd x y < 0) : leEd x y := by
  have := (ltEd_iff x y).1 (by simpa [ltEd] using h)
  unfold leEd; omega
theorem cmp_ge (x y : Ed) (h : ¬ cmpEd x y < 0) : leEd y x := by
  have : ¬ (ltEd x y = true) := by simpa [ltEd] using h
  rw [ltEd_iff] at this
  unfold leEd; omega
theorem leEd_trans {x y z : Ed} (h1 : leEd x y) (h2 : leEd y z) : leEd x z := by unfold leEd at *; omega
theorem leEd_refl (x : Ed) : leEd x x := by unfold leEd; omega
def Srt (l : List Ed) : Prop := l.Pairwise leEd
theorem srt_of_le {X Y : List Ed} (hX : Srt X) (hY : Srt Y) (h : ∀ x ∈ X, ∀ y ∈ Y, leEd x y) : Srt (X ++ Y) := by
  unfold Srt; rw [List.pairwise_append]; exact ⟨hX, hY, h⟩
/-- the halves of a merge that was cut at the right place. -/
theorem halves {X Y : List Ed} {s e : Nat} (hX : Srt X) (hY : Srt Y)
    (h1 : s = 0 ∨ e = Y.length ∨ ∃ x y, X[s - 1]? = some x ∧ Y[e]? = some y ∧ leEd x y)
    (h2 : s = X.length ∨ e = 0 ∨ ∃ x y, X[s]? = some x ∧ Y[e - 1]? = some y ∧ leEd y x) (hs : s ≤ X.length) (he : e ≤ Y.length) :
    (∀ x ∈ X.take s, ∀ y ∈ Y.drop e, leEd x y) ∧ (∀ y ∈ Y.take e, ∀ x ∈ X.drop s, leEd y x) := by
  have low : ∀ (Z : List Ed) (k : Nat) (z : Ed), Srt Z → Z[k]? = some z → ∀ x ∈ Z.take (k + 1), leEd x z := by
    intro Z k z hZ hk x hx
    obtain ⟨hkl, rfl⟩ := List.getElem?_eq_some_iff.1 hk
    rw [List.mem_take_iff_getElem] at hx
    obtain ⟨j, hj, rfl⟩ := hx
    by_cases hjk : j = k
    · subst hjk; exact leEd_refl _
    · exact List.pairwise_iff_getElem.1 hZ j k (by omega) hkl (by omega)
  have high : ∀ (Z : List Ed) (k : Nat) (z : Ed), Srt Z → Z[k]? = some z → ∀ x ∈ Z.drop k, leEd z x := by
    intro Z k z hZ hk x hx
    obtain ⟨hkl, rfl⟩ := List.getElem?_eq_some_iff.1 hk
    rw [List.mem_drop_iff_getElem] at hx
    obtain ⟨j, hj, rfl⟩ := hx
    by_cases hj0 : j = 0
    · subst hj0; exact leEd_refl _
    · exact List.pairwise_iff_getElem.1 hZ k (k + j) hkl (by omega) (by omega)
  constructor
  · intro x hx y hy
    rcases h1 with rfl | rfl | ⟨u, v, hu, hv, huv⟩
    · simp at hx
    · simp at hy
    · by_cases h0 : s = 0
      · subst h0; simp at hx
      · have a1 := low X (s - 1) u hX hu x (by rw [show s - 1 + 1 = s from by omega]; exact hx)
        have a2 := high Y e v hY hv y hy
        exact leEd_trans a1 (leEd_trans huv a2)
  · intro y hy x hx
    rcases h2 with rfl | rfl | ⟨u, v, hu, hv, huv⟩
    · simp at hx
    · simp at hy
    · by_cases h0 : e = 0
      · subst h0; simp at hy
      · have a1 := low Y (e - 1) v hY hv y (by rw [show e - 1 + 1 = e from by omega]; exact hy)
        have a2 := high X s u hX hu x hx
        exact leEd_trans a1 (leEd_trans huv a2)
/-- the halves sorted, the whole is. -/
theorem merge_of {X Y Z W : List Ed} {s e : Nat} (h : (∀ x ∈ X.take s, ∀ y ∈ Y.drop e, leEd x y) ∧ (∀ y ∈ Y.take e, ∀ x ∈ X.drop s, leEd y x)) (hX : Srt X) (hY : Srt Y)
    (hZ : Z.Perm (X.take s ++ Y.take e)) (hW : W.Perm (X.drop s ++ Y.drop e)) (sZ : Srt Z) (sW : Srt W) : (Z ++ W).Perm (X ++ Y) ∧ Srt (Z ++ W) := by
  refine ⟨?_, srt_of_le sZ sW ?_⟩
  · refine (hZ.append hW).trans ?_
    have e1 : X ++ Y = (X.take s ++ X.drop s) ++ (Y.take e ++ Y.drop e) := by rw [List.take_append_drop, List.take_append_drop]
    rw [e1, List.append_assoc, List.append_assoc]
    refine List.Perm.append_left _ ?_
    rw [← List.append_assoc, ← List.append_assoc]
    exact List.Perm.append_right _ List.perm_append_comm
  · intro z hz w hw
    have hz' := hZ.mem_iff.1 hz
    have hw' := hW.mem_iff.1 hw
    rcases List.mem_append.1 hz' with hz' | hz' <;> rcases List.mem_append.1 hw' with hw' | hw'
    · have h3 : (X.take s ++ X.drop s).Pairwise leEd := by rw [List.take_append_drop]; exact hX
      exact (List.pairwise_append.1 h3).2.2 z hz' w hw'
    · exact h.1 z hz' w hw'
    · exact h.2 z hz' w hw'
    · have h3 : (Y.take e ++ Y.drop e).Pairwise leEd := by rw [List.take_append_drop]; exact hY
      exact (List.pairwise_append.1 h3).2.2 z hz' w hw'
theorem srt_take {X : List Ed} (h : Srt X) (k : Nat) : Srt (X.take k) := List.Pairwise.sublist (List.take_sublist _ _) h
theorem srt_drop {X : List Ed} (h : Srt X) (k : Nat) : Srt (X.drop k) := List.Pairwise.sublist (List.drop_sublist _ _) h
/-- swapRange after k rounds. -/
def swk (P A B C S : List Ed) (k : Nat) : List Ed := P ++ (C.take k ++ A.drop k) ++ B ++ (A.take k ++ C.drop k) ++ S
theorem swk_get (P A B C S : List Ed) (k : Nat) (h : A.length = C.length) (hk : k < A.length) :
    (swk P A B C S k)[P.length + k]? = A[k]? ∧ (swk P A B C S k)[P.length + A.length + B.length + k]? = C[k]? := by
  unfold swk
  have e1 : (C.take k).length = k := by rw [List.length_take]; omega
  have e2 : (A.take k).length = k := by rw [List.length_take]; omega
  have e3 : (A.drop k).length = A.length - k := List.length_drop
  have e4 : (C.drop k).length = C.length - k := List.length_drop
  simp only [List.append_assoc]
  constructor
  · rw [List.getElem?_append_right (by omega), List.getElem?_append_right (by omega), List.getElem?_append_left (by omega), List.getElem?_drop]
    congr 1; omega
  · rw [List.getElem?_append_right (by omega), List.getElem?_append_right (by omega), List.getElem?_append_right (by omega), List.getElem?_append_right (by omega), List.getElem?_append_right (by omega), List.getElem?_append_left (by omega), List.getElem?_drop]
    congr 1; omega
theorem swk_len (P A B C S : List Ed) (k : Nat) (h : A.length = C.length) (hk : k ≤ A.length) : (swk P A B C S k).length = P.length + A.length + B.length + C.length + S.length := by
  unfold swk
  simp only [List.length_append, List.length_take, List.length_drop]; omega
theorem set_at (P Q : List Ed) (z y : Ed) (n : Nat) (h : n = P.length) : (P ++ z :: Q).set n y = P ++ y :: Q := by
  subst h
  rw [List.set_append_right _ _ (Nat.le_refl _), Nat.sub_self, List.set_cons_zero]
theorem swk_succ (P A B C S : List Ed) (k : Nat) (x y : Ed) (h : A.length = C.length) (hx : A[k]? = some x) (hy : C[k]? = some y) :
    ((swk P A B C S k).set (P.length + k) y).set (P.length + A.length + B.length + k) x = swk P A B C S (k + 1) := by
  obtain ⟨hk, rfl⟩ := List.getElem?_eq_some_iff.1 hx
  obtain ⟨hk2, rfl⟩ := List.getElem?_eq_some_iff.1 hy
  have e1 : (C.take k).length = k := by rw [List.length_take]; omega
  have e2 : (A.take k).length = k := by rw [List.length_take]; omega
  have d1 : A.drop k = A[k] :: A.drop (k + 1) := List.drop_eq_getElem_cons hk
  have d2 : C.drop k = C[k] :: C.drop (k + 1) := List.drop_eq_getElem_cons hk2
  have s1 : swk P A B C S k = (P ++ C.take k) ++ A[k] :: (A.drop (k + 1) ++ B ++ A.take k ++ C.drop k ++ S) := by unfold swk; rw [d1]; simp only [List.append_assoc, List.cons_append, List.nil_append]
  have s2 : (P ++ C.take k) ++ C[k] :: (A.drop (k + 1) ++ B ++ A.take k ++ C.drop k ++ S) = (P ++ C.take k ++ C[k] :: (A.drop (k + 1) ++ B ++ A.take k)) ++ C[k] :: (C.drop (k + 1) ++ S) := by rw [d2]; simp only [List.append_assoc, List.cons_append, List.nil_append]
  rw [s1, set_at _ _ _ _ _ (by rw [List.length_append]; omega), s2, set_at _ _ _ _ _ (by simp only [List.length_append, List.length_cons, List.length_drop]; omega)]
  unfold swk
  rw [List.take_succ_eq_append_getElem hk, List.take_succ_eq_append_getElem hk2]
  simp only [List.append_assoc, List.cons_append, List.nil_append]
theorem swk_zero (P A B C S : List Ed) : swk P A B C S 0 = P ++ A ++ B ++ C ++ S := by simp [swk]
theorem swk_full (P A B C S : List Ed) (h : A.length = C.length) : swk P A B C S A.length = P ++ C ++ B ++ A ++ S := by
  unfold swk
  rw [List.take_length, List.drop_length, h, List.take_length, List.drop_length]; simp
end Go.Proofs.Ytnnicjbceadnbaa

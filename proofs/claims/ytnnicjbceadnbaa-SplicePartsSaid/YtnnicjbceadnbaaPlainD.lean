/- Insertion sort on lists: plain. -/
import Derived.Test.YtnnicjbceadnbaaPlain
namespace Go.Proofs.Ytnnicjbceadnbaa
namespace Sp
variable {α : Type}
/-- element k moved down to place j. -/
def put (l : List α) (k j : Nat) : List α := match l[k]? with
  | some x => l.take j ++ [x] ++ ((l.drop j).take (k - j)) ++ l.drop (k + 1)
  | none => l
theorem put_eq (l : List α) (k j : Nat) (hk : k < l.length) : put l k j = l.take j ++ [l[k]] ++ ((l.drop j).take (k - j)) ++ l.drop (k + 1) := by
  simp [put, List.getElem?_eq_getElem hk]
theorem put_length (l : List α) (k j : Nat) (hj : j ≤ k) : (put l k j).length = l.length := by
  unfold put
  cases h : l[k]? with
  | none => rfl
  | some x =>
    have hk : k < l.length := (List.getElem?_eq_some_iff.1 h).1
    simp; omega
theorem put_self (l : List α) (k : Nat) : put l k k = l := by
  unfold put
  cases h : l[k]? with
  | none => rfl
  | some x =>
    obtain ⟨hk, rfl⟩ := List.getElem?_eq_some_iff.1 h
    simp only [Nat.sub_self, List.take_zero, List.append_nil]
    rw [← List.take_succ_eq_append_getElem hk, List.take_append_drop]
theorem put_get_j (l : List α) (k j : Nat) (hj : j ≤ k) (hk : k < l.length) : (put l k j)[j]? = some l[k] := by
  rw [put_eq l k j hk, List.append_assoc, List.append_assoc, List.getElem?_append_right (by rw [List.length_take]; omega)]
  rw [List.length_take, Nat.min_eq_left (by omega)]
  simp
theorem put_get_lt (l : List α) (k j i : Nat) (hi : i < j) (hj : j ≤ k) (hk : k < l.length) : (put l k j)[i]? = l[i]? := by
  rw [put_eq l k j hk, List.append_assoc, List.append_assoc, List.getElem?_append_left (by rw [List.length_take]; omega)]
  rw [List.getElem?_take, if_pos hi]
theorem put_swap (l : List α) (k i : Nat) (hi : i < k) (hk : k < l.length) : ((put l k (i + 1)).set (i + 1) l[i]).set i l[k] = put l k i := by
  have h1 : l.take (i + 1) = l.take i ++ [l[i]] := List.take_succ_eq_append_getElem (by omega)
  have h2 : l.drop i = l[i] :: l.drop (i + 1) := List.drop_eq_getElem_cons (by omega)
  have e2 : (l.drop i).take (k - i) = l[i] :: (l.drop (i + 1)).take (k - (i + 1)) := by
    rw [h2, show k - i = (k - (i + 1)) + 1 from by omega, List.take_succ_cons]
  rw [put_eq l k (i + 1) hk, put_eq l k i hk, h1, e2]
  have ht : (l.take i).length = i := by rw [List.length_take]; omega
  simp only [List.append_assoc, List.cons_append, List.nil_append]
  rw [List.set_append_right _ _ (by rw [ht]; omega), ht, show i + 1 - i = 1 from by omega]
  rw [List.set_append_right _ _ (by rw [ht]; omega), ht, Nat.sub_self]
  rfl
/-- the place to which x goes, from place j down, not below a. -/
def insAt (lt : α → α → Bool) (x : α) (l : List α) (a : Nat) : Nat → Nat
  | 0 => 0
  | j + 1 => if a ≤ j ∧ (l[j]?.map (lt x)) = some true then insAt lt x l a j else j + 1
theorem insAt_le (lt : α → α → Bool) (x : α) (l : List α) (a : Nat) (j : Nat) : insAt lt x l a j ≤ j := by
  induction j with
  | zero => simp [insAt]
  | succ j ih => unfold insAt; split <;> omega
/-- one element of the insertion sort. -/
def insK (lt : α → α → Bool) (l : List α) (a k : Nat) : List α := match l[k]? with
  | some x => put l k (insAt lt x l a k)
  | none => l
def isortN (lt : α → α → Bool) (a : Nat) : Nat → List α → List α
  | 0, l => l
  | m + 1, l => insK lt (isortN lt a m l) a (a + 1 + m)
theorem insK_length (lt : α → α → Bool) (l : List α) (a k : Nat) : (insK lt l a k).length = l.length := by
  unfold insK; split
  · exact put_length _ _ _ (insAt_le _ _ _ _ _)
  · rfl
theorem isortN_length (lt : α → α → Bool) (a m : Nat) (l : List α) : (isortN lt a m l).length = l.length := by
  induction m with
  | zero => rfl
  | succ m ih => rw [isortN, insK_length, ih]
/-- the insertion sort of the places from a to b. -/
def isort (lt : α → α → Bool) (a b : Nat) (l : List α) : List α := isortN lt a (b - (a + 1)) l
end Sp
end Go.Proofs.Ytnnicjbceadnbaa

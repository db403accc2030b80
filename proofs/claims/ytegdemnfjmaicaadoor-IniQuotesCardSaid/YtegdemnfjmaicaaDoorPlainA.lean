/- Sources that are put together: what the plain parser does with them. -/
import Derived.Test.YtegdemnfjmaicaaDoorPlainU
namespace Go.Proofs.YtegdemnfjmaicaaDoor
namespace Ini
theorem splitAt_none {l : Str} (h : (10 : UInt8) ∉ l) : splitAt l = (l, none) := by
  induction l with
  | nil => rfl
  | cons c r ih =>
    have hc : c ≠ 10 := fun e => h (by simp [e])
    have hr : (10 : UInt8) ∉ r := fun e => h (by simp [e])
    simp [splitAt, hc, ih hr]
theorem splitAt_some {l : Str} (h : (10 : UInt8) ∉ l) (q : Str) : splitAt (l ++ 10 :: q) = (l, some q) := by
  induction l with
  | nil => simp [splitAt]
  | cons c r ih =>
    have hc : c ≠ 10 := fun e => h (by simp [e])
    have hr : (10 : UInt8) ∉ r := fun e => h (by simp [e])
    simp [splitAt, hc, ih hr]
theorem split_cases (r : Str) : (10 : UInt8) ∉ r ∨ ∃ l q, r = l ++ 10 :: q ∧ (10 : UInt8) ∉ l := by
  induction r with
  | nil => left; simp
  | cons c r ih =>
    by_cases hc : c = 10
    · right; exact ⟨[], r, by simp [hc], by simp⟩
    · rcases ih with h | ⟨l, q, rfl, h⟩
      · left; simp [h]; exact fun e => hc e.symm
      · right; exact ⟨c :: l, q, rfl, by simp [h]; exact fun e => hc e.symm⟩
theorem lines_fuel (n m : Nat) (st : St) (r : Str) (a : Nat) (hn : r.length < n) (hm : r.length < m) : lines n st r a = lines m st r a := by
  induction n generalizing m st r a with
  | zero => omega
  | succ n ih =>
    cases m with
    | zero => omega
    | succ m =>
      rcases split_cases r with h | ⟨l, q, rfl, h⟩
      · simp [lines, splitAt_none h]
      · simp only [lines, splitAt_some h]
        simp only [List.length_append, List.length_cons] at hn hm
        cases line st (cr l) a with
        | err x e => rfl
        | ok st' => exact ih m st' q _ (by omega) (by omega)
/-- all lines. -/
def run (st : St) (r : Str) (a : Nat) : Res St := lines (r.length + 1) st r a
def Res.bind' {α β : Type} : Res α → (α → Res β) → Res β
  | .err a e, _ => .err a e
  | .ok x, f => f x
theorem run_last (st : St) (l : Str) (a : Nat) (h : (10 : UInt8) ∉ l) : run st l a = line st l a := by
  simp [run, lines, splitAt_none h]
theorem run_line (st : St) (l q : Str) (a : Nat) (h : (10 : UInt8) ∉ l) : run st (l ++ 10 :: q) a = (line st (cr l) a).bind' fun st' => run st' q (a + l.length + 1) := by
  simp only [run, lines, splitAt_some h]
  cases line st (cr l) a with
  | err x e => rfl
  | ok st' => exact lines_fuel _ _ _ _ _ (by rw [List.length_append, List.length_cons]; omega) (Nat.lt_succ_self _)
theorem line_nil (st : St) (a : Nat) : line st [] a = .ok st := rfl
theorem run_nil (st : St) (a : Nat) : run st [] a = .ok st := rfl
/-- behind a line's end the rest is read as if it stood alone. -/
theorem run_join (st : St) (x t : Str) (a : Nat) : run st (x ++ 10 :: t) a = (run st (x ++ [10]) a).bind' fun st' => run st' t (a + x.length + 1) := by
  generalize hn : x.length = n
  induction n using Nat.strongRecOn generalizing st x a with
  | ind n ih =>
    rcases split_cases x with h | ⟨l, q, rfl, h⟩
    · rw [run_line _ _ _ _ h, run_line _ _ _ _ h, hn]
      cases line st (cr x) a with
      | err _ _ => rfl
      | ok st' => rfl
    · rw [List.append_assoc, List.cons_append, run_line _ _ _ _ h, List.append_assoc, List.cons_append, run_line _ _ _ _ h]
      cases line st (cr l) a with
      | err _ _ => rfl
      | ok st' =>
        show run st' (q ++ 10 :: t) _ = (run st' (q ++ [10]) _).bind' _
        simp only [List.length_append, List.length_cons] at hn
        rw [ih q.length (by omega) st' q _ rfl]
        have e : a + l.length + 1 + q.length + 1 = a + n + 1 := by omega
        rw [e]
theorem cr_self (l : Str) (h : l.getLast? ≠ some 13) : cr l = l := by unfold cr; rw [if_neg h]
theorem run_end (st : St) (x : Str) (a : Nat) (h : x.getLast? ≠ some 13) : run st (x ++ [10]) a = run st x a := by
  generalize hn : x.length = n
  induction n using Nat.strongRecOn generalizing st x a with
  | ind n ih =>
    rcases split_cases x with h0 | ⟨l, q, rfl, h0⟩
    · rw [run_line _ _ _ _ h0, run_last _ _ _ h0, cr_self x h]
      cases line st x a with
      | err _ _ => rfl
      | ok st' => rfl
    · rw [List.append_assoc, List.cons_append, run_line _ _ _ _ h0, run_line _ _ _ _ h0]
      cases line st (cr l) a with
      | err _ _ => rfl
      | ok st' =>
        simp only [List.length_append, List.length_cons] at hn
        refine ih q.length (by omega) st' q _ ?_ rfl
        intro hq
        apply h
        cases q with
        | nil => simp at hq
        | cons c q => simpa [List.getLast?_append] using hq
/-- UTF-8: a byte below 128 divides. -/
theorem getD_app_lt (x t : Str) (c : UInt8) (k : Nat) (h : k < x.length) : (x ++ c :: t).getD k 0 = x.getD k 0 := by
  simp [List.getD_eq_getElem?_getD, List.getElem?_append_left h]
theorem cont_app (x t : Str) (c : UInt8) (hc : c.toNat < 128) (k : Nat) (h : k ≤ x.length) :
    (decide (k < (x ++ c :: t).length) && ((x ++ c :: t).getD k 0).toNat / 64 == 2) = (decide (k < x.length) && (x.getD k 0).toNat / 64 == 2) := by
  rcases Nat.lt_or_ge k x.length with hk | hk
  · rw [getD_app_lt x t c k hk]
    have : k < (x ++ c :: t).length := by simp; omega
    simp [hk]
    omega
  · have e : k = x.length := by omega
    subst e
    have e1 : (x ++ c :: t).getD x.length 0 = c := by simp [List.getD_eq_getElem?_getD]
    rw [e1]
    have : (c.toNat / 64 == 2) = false := by simp; omega
    simp [this]
theorem dec_app (x t : Str) (c : UInt8) (hc : c.toNat < 128) (hx : x ≠ []) : dec (x ++ c :: t) = dec x := by
  have h0 : 0 < x.length := List.length_pos_iff.2 hx
  have b0 := getD_app_lt x t c 0 h0
  have c1 := cont_app x t c hc 1 (by omega)
  unfold dec
  simp only [b0, c1]
  by_cases h1 : (decide (1 < x.length) && (x.getD 1 0).toNat / 64 == 2) = true
  · have l1 : 1 < x.length := by simp at h1; exact h1.1
    have b1 := getD_app_lt x t c 1 l1
    have c2 := cont_app x t c hc 2 (by omega)
    simp only [b1, c2]
    by_cases h2 : (decide (2 < x.length) && (x.getD 2 0).toNat / 64 == 2) = true
    · have l2 : 2 < x.length := by simp at h2; exact h2.1
      have b2 := getD_app_lt x t c 2 l2
      have c3 := cont_app x t c hc 3 (by omega)
      simp only [b2, c3]
      by_cases h3 : (decide (3 < x.length) && (x.getD 3 0).toNat / 64 == 2) = true
      · have l3 : 3 < x.length := by simp at h3; exact h3.1
        have b3 := getD_app_lt x t c 3 l3
        simp only [b3]
      · simp only [Bool.not_eq_true] at h3
        simp only [h3, Bool.and_false, Bool.false_eq_true, if_false]
    · simp only [Bool.not_eq_true] at h2
      simp only [h2, Bool.and_false, Bool.false_and, Bool.false_eq_true, if_false]
  · simp only [Bool.not_eq_true] at h1
    simp only [h1, Bool.and_false, Bool.false_and, Bool.false_eq_true, if_false]
theorem dec_len (r : Str) (h : r ≠ []) : (dec r).2 ≤ r.length := by
  have h0 : 0 < r.length := List.length_pos_iff.2 h
  unfold dec
  simp only
  repeat' split
  all_goals (simp_all <;> omega)
theorem badU_fuel (n m : Nat) (r : Str) (i : Nat) (hn : r.length ≤ n) (hm : r.length ≤ m) : badU n r i = badU m r i := by
  induction n generalizing m r i with
  | zero =>
    have : r = [] := List.eq_nil_of_length_eq_zero (by omega)
    subst this
    cases m <;> rfl
  | succ n ih =>
    cases r with
    | nil => cases m <;> rfl
    | cons c q =>
      cases m with
      | zero => simp at hm
      | succ m =>
        have hw := dec_width (c :: q)
        unfold badU
        simp only
        split
        · rfl
        · exact ih m _ _ (by simp at hn ⊢; omega) (by simp at hm ⊢; omega)
theorem badU_app (n : Nat) (x t : Str) (c : UInt8) (hc : c.toNat < 128) (i : Nat) (hn : (x ++ c :: t).length ≤ n) :
    badU n (x ++ c :: t) i = match badU n x i with
      | some j => some j
      | none => badU n t (i + x.length + 1) := by
  induction n generalizing x i with
  | zero => simp at hn
  | succ n ih =>
    cases x with
    | nil =>
      have hd : dec (c :: t) = (c.toNat, 1) := by
        unfold dec
        simp [hc]
      have hne : c.toNat ≠ 65533 := by omega
      simp only [List.nil_append, List.length_nil, Nat.add_zero]
      conv => lhs; unfold badU
      simp only [hd, hne, false_and, if_false, List.drop_succ_cons, List.drop_zero]
      show badU n t (i + 1) = badU (n + 1) t (i + 1)
      exact badU_fuel _ _ _ _ (by simp at hn; omega) (by simp at hn; omega)
    | cons d x =>
      have hd : dec (d :: x ++ c :: t) = dec (d :: x) := dec_app (d :: x) t c hc (by simp)
      have hw := dec_width (d :: x)
      have hl := dec_len (d :: x) (by simp)
      conv => lhs; unfold badU
      conv => rhs; unfold badU
      simp only [List.cons_append] at hd ⊢
      rw [hd]
      by_cases hb : (dec (d :: x)).1 = 65533 ∧ (dec (d :: x)).2 = 1
      · simp only [hb, and_self, if_true]
      · rw [if_neg hb, if_neg hb]
        have e : List.drop (dec (d :: x)).2 (d :: (x ++ c :: t)) = List.drop (dec (d :: x)).2 (d :: x) ++ c :: t := by
          rw [← List.cons_append, List.drop_append_of_le_length hl]
        rw [e, ih _ _ (by simp at hn ⊢; omega)]
        rw [show i + (dec (d :: x)).2 + (List.drop (dec (d :: x)).2 (d :: x)).length + 1 = i + (d :: x).length + 1 from by rw [List.length_drop]; omega]
        cases h5 : badU n (List.drop (dec (d :: x)).2 (d :: x)) (i + (dec (d :: x)).2) with
        | some j => rfl
        | none =>
          show badU n t _ = _
          have hlt : t.length ≤ n := by simp at hn; omega
          rw [show badU n t (i + (d :: x).length + 1) = badU (n + 1) t (i + (d :: x).length + 1) from badU_fuel _ _ _ _ hlt (by omega)]
          cases t with
          | nil => rfl
          | cons => rfl
theorem badU_shift (n : Nat) (r : Str) (i d : Nat) : badU n r (i + d) = (badU n r i).map (· + d) := by
  induction n generalizing r i with
  | zero => rfl
  | succ n ih =>
    cases r with
    | nil => rfl
    | cons c q =>
      unfold badU
      simp only
      split
      · rfl
      · rw [show i + d + (dec (c :: q)).2 = i + (dec (c :: q)).2 + d from by omega]
        exact ih _ _
theorem bad_app (x t : Str) (c : UInt8) (hc : c.toNat < 128) : bad (x ++ c :: t) = match bad x with
      | some j => some j
      | none => (bad t).map (· + (x.length + 1)) := by
  unfold bad
  rw [badU_app _ x t c hc 0 (Nat.le_refl _)]
  rw [badU_fuel (x ++ c :: t).length x.length x 0 (by simp) (Nat.le_refl _), badU_fuel (x ++ c :: t).length t.length t _ (by simp; omega) (Nat.le_refl _)]
  rw [show 0 + x.length + 1 = 0 + (x.length + 1) from by omega, badU_shift]
theorem ctl_shift (r : Str) (i d : Nat) : ctl r (i + d) = (ctl r i).map (· + d) := by
  induction r generalizing i with
  | nil => rfl
  | cons c r ih =>
    unfold ctl
    split
    · rfl
    · rw [show i + d + 1 = i + 1 + d from by omega]; exact ih _
theorem ctl_cons (c : UInt8) (r : Str) (i : Nat) : ctl (c :: r) i = if c < 32 && c != 9 && !(c == 10 || (c == 13 && r.head? == some 10)) then some i else ctl r (i + 1) := rfl
theorem ctl_app (x t : Str) (h : x.getLast? ≠ some 13) (i : Nat) : ctl (x ++ 10 :: t) i = match ctl x i with
      | some j => some j
      | none => ctl t (i + x.length + 1) := by
  induction x generalizing i with
  | nil => rfl
  | cons c x ih =>
    have hh : (x ++ 10 :: t).head? = if x = [] then some 10 else x.head? := by cases x <;> simp
    rw [List.cons_append, ctl_cons, ctl_cons]
    by_cases hx : x = []
    · subst hx
      have hc : c ≠ 13 := fun e => h (by simp [e])
      have hcb : (c == 13) = false := by simpa using hc
      simp only [List.nil_append, List.head?_cons, hcb, Bool.false_and, Bool.or_false]
      split
      · rfl
      · rfl
    · rw [hh, if_neg hx]
      split
      · rfl
      · rw [ih (by rw [List.getLast?_cons] at h; intro e; apply h; rw [e]; rfl) (i + 1)]
        rw [show i + 1 + x.length + 1 = i + (c :: x).length + 1 from by simp; omega]
/-- a text that ends in a line's end and holds no bad control character. -/
theorem ctl_join (x t : Str) (i : Nat) (h : ctl (x ++ [10]) i = none) : ctl (x ++ 10 :: t) i = ctl t (i + x.length + 1) := by
  induction x generalizing i with
  | nil => simp [ctl]
  | cons c x ih =>
    have hh : (x ++ 10 :: t).head? = (x ++ [10]).head? := by cases x <;> simp
    simp only [List.cons_append, ctl, hh] at h ⊢
    split at h
    · cases h
    · rename_i hif
      rw [if_neg hif, ih _ h]
      rw [show i + 1 + x.length + 1 = i + (c :: x).length + 1 from by simp; omega]
end Ini
end Go.Proofs.YtegdemnfjmaicaaDoor

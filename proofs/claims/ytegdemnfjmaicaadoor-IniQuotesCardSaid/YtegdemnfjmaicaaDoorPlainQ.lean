/- A quoted text, step by step: plain. -/
import Derived.Test.YtegdemnfjmaicaaDoorPlain
namespace Go.Proofs.YtegdemnfjmaicaaDoor
namespace Ini
theorem enc_le (n : Nat) : (enc n).length ≤ 4 := by
  unfold enc
  repeat' split
  all_goals simp
theorem esc_len (r : Str) (t : Str) (k : Nat) (h : esc r = .ok (t, k)) : 2 ≤ k ∧ k ≤ r.length ∧ t.length ≤ k := by
  unfold esc at h
  split at h
  · cases h
  · rename_i c q hq
    have hl : r.length = q.length + 2 := by
      have := congrArg List.length hq
      simp at this
      omega
    split at h
    · injection h with h; injection h with h1 h2; subst h1 h2; simp; omega
    · split at h
      · injection h with h; injection h with h1 h2; subst h1 h2; simp; omega
      · split at h
        · injection h with h; injection h with h1 h2; subst h1 h2; simp; omega
        · split at h
          · injection h with h; injection h with h1 h2; subst h1 h2; simp; omega
          · split at h
            · split at h
              · cases h
              · rename_i b hh
                split at h
                · cases h
                · simp only at h
                  split at h
                  · cases h
                  · cases h
                  · rename_i d ds z rest hds hz
                    split at h
                    · cases h
                    · split at h
                      · injection h with h; injection h with h1 h2
                        have he := enc_le (hexVal (List.takeWhile isHex (List.take 6 hh)))
                        have h3 := congrArg List.length hds
                        have h4 := congrArg List.length hz
                        simp only [List.length_cons, List.length_drop] at h3 h4 hl
                        subst h1 h2
                        omega
                      · cases h
            · cases h
theorem esc_err (r : Str) (x e : Nat) (h : esc r = .err x e) : e = 4 ∨ e = 11 := by
  have h4 : ∀ y : Nat, Res.err (α := Str × Nat) y 4 = .err x e → e = 4 ∨ e = 11 := fun y h => by injection h with _ h2; omega
  unfold esc at h
  split at h
  · exact h4 _ h
  · split at h
    · cases h
    · split at h
      · cases h
      · split at h
        · cases h
        · split at h
          · cases h
          · split at h
            · split at h
              · exact h4 _ h
              · split at h
                · exact h4 _ h
                · simp only at h
                  split at h
                  · exact h4 _ h
                  · exact h4 _ h
                  · split at h
                    · exact h4 _ h
                    · split at h
                      · cases h
                      · injection h with _ h2; omega
            · exact h4 _ h
theorem qgo_fuel (n m : Nat) (r : Str) (a : Nat) (acc : Str) (hn : r.length < n) (hm : r.length < m) : qgo n r a acc = qgo m r a acc := by
  induction n generalizing m r a acc with
  | zero => omega
  | succ n ih =>
    cases m with
    | zero => omega
    | succ m =>
      cases r with
      | nil => rfl
      | cons c q =>
        unfold qgo
        simp only
        by_cases h1 : c = 34
        · rw [if_pos h1, if_pos h1]
        · rw [if_neg h1, if_neg h1]
          simp only [List.length_cons] at hn hm
          by_cases h2 : c ≠ 92
          · rw [if_pos h2, if_pos h2]; exact ih m q _ _ (by omega) (by omega)
          · rw [if_neg h2, if_neg h2]
            cases he : esc (c :: q) with
            | err x e => rfl
            | ok p =>
              obtain ⟨t, k⟩ := p
              have := esc_len _ _ _ he
              simp only [List.length_cons] at this
              exact ih m _ _ _ (by simp only [List.length_drop, List.length_cons]; omega) (by simp only [List.length_drop, List.length_cons]; omega)
/-- a quoted text from inside. -/
def Q (r : Str) (a : Nat) (acc : Str) : Res (Str × Nat) := qgo (r.length + 1) r a acc
theorem quoted_Q (c : UInt8) (q : Str) (a : Nat) : quoted (c :: q) a = Q q (a + 1) [] := by
  unfold quoted Q
  exact qgo_fuel _ _ _ _ _ (by simp; omega) (by simp)
theorem Q_nil (a : Nat) (acc : Str) : Q [] a acc = .err a 4 := rfl
theorem Q_end (q : Str) (a : Nat) (acc : Str) : Q (34 :: q) a acc = .ok (acc, a + 1) := rfl
theorem Q_byte (c : UInt8) (q : Str) (a : Nat) (acc : Str) (h1 : c ≠ 34) (h2 : c ≠ 92) : Q (c :: q) a acc = Q q (a + 1) (acc ++ [c]) := by
  unfold Q
  rw [List.length_cons]
  conv => lhs; unfold qgo
  simp only [h1, h2, if_false, ne_eq, not_false_eq_true, if_true]
theorem Q_esc (q : Str) (a : Nat) (acc : Str) : Q (92 :: q) a acc = match esc (92 :: q) with
    | .err _ e => .err a e
    | .ok (t, k) => Q ((92 :: q).drop k) (a + k) (acc ++ t) := by
  unfold Q
  rw [List.length_cons]
  conv => lhs; unfold qgo
  simp only [show ¬ ((92 : UInt8) = 34) from by decide, if_false, ne_eq, not_true_eq_false]
  cases he : esc (92 :: q) with
  | err x e => rfl
  | ok p =>
    obtain ⟨t, k⟩ := p
    have := esc_len _ _ _ he
    simp only [List.length_cons] at this
    exact qgo_fuel _ _ _ _ _ (by simp only [List.length_drop, List.length_cons]; omega) (by simp)
theorem qgo_bounds (n : Nat) (r : Str) (a : Nat) (acc : Str) (t : Str) (i : Nat) (h : qgo n r a acc = .ok (t, i)) : a + 1 ≤ i ∧ i ≤ a + r.length := by
  induction n generalizing r a acc with
  | zero => exact absurd h (by simp [qgo])
  | succ n ih =>
    cases r with
    | nil => exact absurd h (by simp [qgo])
    | cons c q =>
      unfold qgo at h
      simp only at h
      by_cases h1 : c = 34
      · rw [if_pos h1] at h
        injection h with h
        injection h with _ h
        simp only [List.length_cons]; omega
      · rw [if_neg h1] at h
        by_cases h2 : c ≠ 92
        · rw [if_pos h2] at h
          have := ih _ _ _ h
          simp only [List.length_cons]; omega
        · rw [if_neg h2] at h
          cases he : esc (c :: q) with
          | err x e => rw [he] at h; exact absurd h (by simp)
          | ok p =>
            obtain ⟨u, k⟩ := p
            rw [he] at h
            have h3 := esc_len _ _ _ he
            have h4 := ih _ _ _ h
            simp only [List.length_drop] at h4
            simp only [List.length_cons] at *
            omega
theorem Q_bounds (r : Str) (a : Nat) (acc : Str) (t : Str) (i : Nat) (h : Q r a acc = .ok (t, i)) : a + 1 ≤ i ∧ i ≤ a + r.length := qgo_bounds _ _ _ _ _ _ h
end Ini
end Go.Proofs.YtegdemnfjmaicaaDoor

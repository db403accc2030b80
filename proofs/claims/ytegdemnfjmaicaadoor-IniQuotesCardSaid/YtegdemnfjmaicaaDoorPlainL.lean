/- The lines of a source, plain: as ranges. -/
import Derived.Test.YtegdemnfjmaicaaDoorPlainA
import Derived.Test.YtegdemnfjmaicaaDoorPlainF
import Derived.Lib.Bytealg
namespace Go.Proofs.YtegdemnfjmaicaaDoor
namespace Ini
def segsGo : Nat → Str → Nat → List (Nat × Nat)
  | 0, _, _ => []
  | n + 1, r, a => match splitAt r with
    | (l, none) => [(a, a + l.length)]
    | (l, some q) => (a, a + (cr l).length) :: segsGo n q (a + l.length + 1)
/-- the lines of what is left. -/
def lineR (r : Str) (a : Nat) : List (Nat × Nat) := segsGo (r.length + 1) r a
theorem segs_fuel (n m : Nat) (r : Str) (a : Nat) (hn : r.length < n) (hm : r.length < m) : segsGo n r a = segsGo m r a := by
  induction n generalizing m r a with
  | zero => omega
  | succ n ih =>
    cases m with
    | zero => omega
    | succ m =>
      unfold segsGo
      rcases split_cases r with h | ⟨l, q, rfl, h⟩
      · rw [splitAt_none h]
      · rw [splitAt_some h]
        simp only
        rw [ih m q _ (by simp at hn; omega) (by simp at hm; omega)]
theorem lineR_last (r : Str) (a : Nat) (h : (10 : UInt8) ∉ r) : lineR r a = [(a, a + r.length)] := by
  unfold lineR segsGo; rw [splitAt_none h]
theorem lineR_line (l q : Str) (a : Nat) (h : (10 : UInt8) ∉ l) : lineR (l ++ 10 :: q) a = (a, a + (cr l).length) :: lineR q (a + l.length + 1) := by
  unfold lineR
  rw [show segsGo ((l ++ 10 :: q).length + 1) (l ++ 10 :: q) a = _ from rfl]
  conv => lhs; unfold segsGo
  rw [splitAt_some h]
  simp only
  rw [segs_fuel _ (q.length + 1) q _ (by simp; omega) (by omega)]
theorem cr_le (l : Str) : (cr l).length ≤ l.length := by unfold cr; split <;> simp
theorem cr_take (l : Str) : cr l = l.take (cr l).length := by
  unfold cr
  split
  · rw [List.dropLast_eq_take]; simp
  · simp
theorem lineR_bounds (n : Nat) (r : Str) (a : Nat) (hn : r.length ≤ n) : ∀ x ∈ lineR r a, x.1 ≤ x.2 ∧ x.2 ≤ a + r.length := by
  induction n generalizing r a with
  | zero =>
    obtain rfl : r = [] := List.eq_nil_of_length_eq_zero (by omega)
    rw [lineR_last [] a (by simp)]
    intro x hx
    simp at hx
    subst hx
    simp
  | succ n ih =>
    rcases split_cases r with h | ⟨l, q, rfl, h⟩
    · rw [lineR_last r a h]
      intro x hx
      simp at hx
      subst hx
      simp
    · rw [lineR_line l q a h]
      intro x hx
      have h1 := cr_le l
      rcases List.mem_cons.1 hx with rfl | hx
      · simp; omega
      · have := ih q (a + l.length + 1) (by simp at hn; omega) x hx
        simp
        omega
theorem lineR_length (n : Nat) (r : Str) (a : Nat) (hn : r.length ≤ n) : (lineR r a).length ≤ r.length + 1 := by
  induction n generalizing r a with
  | zero =>
    obtain rfl : r = [] := List.eq_nil_of_length_eq_zero (by omega)
    rw [lineR_last [] a (by simp)]
    simp
  | succ n ih =>
    rcases split_cases r with h | ⟨l, q, rfl, h⟩
    · rw [lineR_last r a h]; simp
    · rw [lineR_line l q a h]
      have := ih q (a + l.length + 1) (by simp at hn; omega)
      simp
      omega
/-- a range of a source. -/
def sgm (s : Str) (a tz : Nat) : Str := (s.take tz).drop a
/-- lines, one after the other. -/
def runs (s : Str) : List (Nat × Nat) → St → Res St
  | [], st => .ok st
  | x :: xs, st => match line st (sgm s x.1 x.2) x.1 with
    | .err a e => .err a e
    | .ok st' => runs s xs st'
theorem runs_snoc (s : Str) (xs : List (Nat × Nat)) (x : Nat × Nat) (st : St) : runs s (xs ++ [x]) st = match runs s xs st with
    | .err a e => .err a e
    | .ok st' => line st' (sgm s x.1 x.2) x.1 := by
  induction xs generalizing st with
  | nil =>
    simp only [List.nil_append, runs]
    split <;> simp_all
  | cons y ys ih =>
    simp only [List.cons_append, runs]
    cases line st (sgm s y.1 y.2) y.1 with
    | err a e => rfl
    | ok st' => exact ih st'
theorem runs_err (s : Str) (pre xs : List (Nat × Nat)) (st : St) (a e : Nat) (h : runs s pre st = .err a e) (hp : pre <+: xs) : runs s xs st = .err a e := by
  obtain ⟨t, rfl⟩ := hp
  induction pre generalizing st with
  | nil => cases h
  | cons y ys ih =>
    simp only [List.cons_append, runs] at h ⊢
    cases hl : line st (sgm s y.1 y.2) y.1 with
    | err a e => rw [hl] at h; exact h
    | ok st' => rw [hl] at h; exact ih st' h
theorem run_runs (n : Nat) (s r : Str) (a : Nat) (st : St) (hn : r.length ≤ n) (ha : a ≤ s.length) (hr : s.drop a = r) : run st r a = runs s (lineR r a) st := by
  have hrl : r.length = s.length - a := by rw [← hr]; simp
  have hs : ∀ k, k ≤ r.length → sgm s a (a + k) = r.take k := by
    intro k hk
    unfold sgm
    rw [← hr, List.drop_take]
    congr 1
    omega
  induction n generalizing r a st with
  | zero =>
    obtain rfl : r = [] := List.eq_nil_of_length_eq_zero (by omega)
    rw [lineR_last [] a (by simp), run_last st [] a (by simp)]
    simp only [runs]
    rw [hs _ (Nat.le_refl _)]
    cases h : line st [] a <;> simp_all
  | succ n ih =>
    rcases split_cases r with h | ⟨l, q, rfl, h⟩
    · rw [lineR_last r a h, run_last st r a h]
      simp only [runs]
      rw [hs _ (Nat.le_refl _), List.take_length]
      cases h : line st r a <;> simp_all
    · rw [lineR_line l q a h, run_line st l q a h]
      have h1 := cr_le l
      simp only [runs]
      rw [hs _ (by simp; omega), List.take_append_of_le_length h1, ← cr_take]
      cases hl : line st (cr l) a with
      | err x e => rfl
      | ok st' =>
        have hlen : l.length + 1 + q.length = s.length - a := by simp at hrl; omega
        have hd : s.drop (a + l.length + 1) = q := by
          rw [show a + l.length + 1 = a + (l.length + 1) from by omega, ← List.drop_drop, hr]
          simp
        refine ih q (a + l.length + 1) st' (by simp at hn; omega) (by omega) hd (by omega) ?_
        intro k hk
        unfold sgm
        rw [← hd, List.drop_take]
        congr 1
        omega
/-- the lines of a source. -/
def lineL (s : Str) : List (Nat × Nat) := lineR s 0
theorem lines_runs (s : Str) (st : St) : lines (s.length + 1) st s 0 = runs s (lineL s) st := run_runs s.length s s 0 st (Nat.le_refl _) (by omega) rfl
/-- where the next line feed is. -/
theorem index_none (r : Str) (h : (10 : UInt8) ∉ r) : Lib.indexByte r 10 = -1 := by
  induction r with
  | nil => rfl
  | cons c r ih =>
    simp only [List.mem_cons, not_or] at h
    unfold Lib.indexByte
    rw [ih h.2]
    have : (c == 10) = false := by simp; exact fun e => h.1 e.symm
    rw [this]
    rfl
theorem index_some (l q : Str) (h : (10 : UInt8) ∉ l) : Lib.indexByte (l ++ 10 :: q) 10 = (l.length : Int) := by
  induction l with
  | nil => simp [Lib.indexByte]
  | cons c l ih =>
    simp only [List.mem_cons, not_or] at h
    rw [List.cons_append]
    unfold Lib.indexByte
    rw [ih h.2]
    have : (c == 10) = false := by simp; exact fun e => h.1 e.symm
    rw [this]
    have h2 : ((l.length : Int) == -1) = false := by simp
    rw [h2]
    simp
/-- the notes are not more than the lines. -/
theorem line_notes {st st' : St} {r : Str} {a : Nat} (h : line st r a = .ok st') : st'.notes.length ≤ st.notes.length + 1 := by
  have hadd : ∀ {st st' : St} {node span : Nat} {key : Str} {n : Nd} {s : Sp}, add st node span key n s = .ok st' → st'.notes = st.notes := by
    intro st st' node span key n s h
    unfold add at h
    split at h
    · cases h
    · split at h
      · cases h
      · simp only at h
        split at h
        · cases h
        · injection h with h; subst h; rfl
  unfold line at h
  simp only at h
  split at h
  · injection h with h; subst h; omega
  · split at h
    · injection h with h; subst h; simp
    · split at h
      · unfold header at h
        simp only at h
        split at h
        · cases h
        · split at h
          · cases h
          · split at h
            · cases h
            · rename_i st1 e1
              injection h with h; subst h
              show st1.notes.length ≤ _
              rw [hadd e1]; omega
      · unfold entry at h
        simp only at h
        split at h
        · cases h
        · split at h
          · cases h
          · split at h
            · cases h
            · rename_i st1 e1
              have := hadd e1
              split at h
              · injection h with h; subst h; show st1.notes.length ≤ _; rw [this]; omega
              · injection h with h; subst h; rw [this]; omega
theorem runs_notes (s : Str) (xs : List (Nat × Nat)) (st st' : St) (h : runs s xs st = .ok st') : st'.notes.length ≤ st.notes.length + xs.length := by
  induction xs generalizing st with
  | nil => simp only [runs] at h; injection h with h; subst h; simp
  | cons x xs ih =>
    simp only [runs] at h
    cases hl : line st (sgm s x.1 x.2) x.1 with
    | err a e => rw [hl] at h; cases h
    | ok st1 =>
      rw [hl] at h
      have h1 := ih st1 h
      have h2 := line_notes hl
      simp
      omega
end Ini
theorem Fit.runs {s : Ini.Str} {xs : List (Nat × Nat)} {st st' : Ini.St} (h : Fit st) (e : Ini.runs s xs st = .ok st') : Fit st' := by
  induction xs generalizing st with
  | nil => simp only [Ini.runs] at e; injection e with e; subst e; exact h
  | cons x xs ih =>
    simp only [Ini.runs] at e
    cases hl : Ini.line st (Ini.sgm s x.1 x.2) x.1 with
    | err a e' => rw [hl] at e; cases e
    | ok st1 => rw [hl] at e; exact ih (h.line hl) e
end Go.Proofs.YtegdemnfjmaicaaDoor

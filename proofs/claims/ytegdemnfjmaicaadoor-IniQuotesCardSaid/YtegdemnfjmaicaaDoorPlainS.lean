/- The plain parser at a source that is moved: every offset moves along; with empty lines and comments around it; its errors: none is number 0, none lies behind the source. -/
import Derived.Test.YtegdemnfjmaicaaDoorPlainA
import Derived.Test.YtegdemnfjmaicaaDoorPlainQ
import Derived.Test.YtegdemnfjmaicaaDoorPlainL
namespace Go.Proofs.YtegdemnfjmaicaaDoor
namespace Ini
theorem qgo_shift (n : Nat) (r : Str) (a d : Nat) (acc : Str) : qgo n r (a + d) acc = match qgo n r a acc with
    | .err x e => .err (x + d) e
    | .ok (t, i) => .ok (t, i + d) := by
  induction n generalizing r a acc with
  | zero => rfl
  | succ n ih =>
    cases r with
    | nil => rfl
    | cons c q =>
      unfold qgo
      simp only
      by_cases h1 : c = 34
      · rw [if_pos h1, if_pos h1]
        simp only
        rw [show a + d + 1 = a + 1 + d from by omega]
      · rw [if_neg h1, if_neg h1]
        by_cases h2 : c ≠ 92
        · rw [if_pos h2, if_pos h2, show a + d + 1 = a + 1 + d from by omega]; exact ih _ _ _
        · rw [if_neg h2, if_neg h2]
          cases esc (c :: q) with
          | err x e => rfl
          | ok p =>
            obtain ⟨t, k⟩ := p
            show qgo n _ (a + d + k) _ = _
            rw [show a + d + k = a + k + d from by omega]
            exact ih _ _ _
theorem quoted_shift (r : Str) (a d : Nat) : quoted r (a + d) = match quoted r a with
    | .err x e => .err (x + d) e
    | .ok (t, i) => .ok (t, i + d) := by
  unfold quoted
  rw [show a + d + 1 = a + 1 + d from by omega]
  exact qgo_shift _ _ _ _ _
theorem name_shift (r : Str) (a d : Nat) (m : UInt8) : name r (a + d) m = match name r a m with
    | .err x e => .err (x + d) e
    | .ok (t, i, j) => .ok (t, i + d, j + d) := by
  unfold name
  by_cases h : r.head? = some 34
  · rw [if_pos h, if_pos h, quoted_shift]
    cases quoted r a with
    | err x e => rfl
    | ok p =>
      obtain ⟨t, i⟩ := p
      simp only [Nat.add_sub_add_right]
      by_cases h2 : (List.drop (nB (List.drop (i - a) r)) (List.drop (i - a) r)).head? = some m
      · rw [if_pos h2, if_pos h2]
        simp only
        rw [show i + d + nB (List.drop (i - a) r) + 1 = i + nB (List.drop (i - a) r) + 1 + d from by omega]
      · rw [if_neg h2, if_neg h2]
        simp only
        rw [show i + d + nB (List.drop (i - a) r) = i + nB (List.drop (i - a) r) + d from by omega]
  · rw [if_neg h, if_neg h]
    simp only
    by_cases h2 : nT (r.takeWhile (fun x => x ≠ m)) = 0
    · rw [if_pos h2, if_pos h2]
    · rw [if_neg h2, if_neg h2]
      by_cases h3 : (r.takeWhile (fun x => x ≠ m)).length = r.length
      · rw [if_pos h3, if_pos h3]
        simp only
        rw [show a + d + r.length = a + r.length + d from by omega]
      · rw [if_neg h3, if_neg h3]
        simp only
        rw [show a + d + nT (r.takeWhile (fun x => x ≠ m)) = a + nT (r.takeWhile (fun x => x ≠ m)) + d from by omega, show a + d + (r.takeWhile (fun x => x ≠ m)).length + 1 = a + (r.takeWhile (fun x => x ≠ m)).length + 1 + d from by omega]
theorem value_shift (r : Str) (a d : Nat) : value r (a + d) = match value r a with
    | .err x e => .err (x + d) e
    | .ok (t, i) => .ok (t, i + d) := by
  unfold value
  by_cases h : r.head? = some 34
  · rw [if_pos h, if_pos h, quoted_shift]
    cases quoted r a with
    | err x e => rfl
    | ok p =>
      obtain ⟨t, i⟩ := p
      simp only [Nat.add_sub_add_right]
      split
      · simp only
        rw [show i + d + nB (List.drop (i - a) r) = i + nB (List.drop (i - a) r) + d from by omega]
      · rfl
  · rw [if_neg h, if_neg h]
    simp only
    rw [show a + d + nT r = a + nT r + d from by omega]
/-- two states with the same graph. -/
structure Alike (st st' : St) : Prop where
  nodes : st'.nodes = st.nodes
  spans : st'.spans.length = st.spans.length
  notes : st.notes.length ≤ st'.notes.length
  node : st'.node = st.node
  span : st'.span = st.span
/-- two answers that differ by an offset. -/
def AlikeR (d : Nat) : Res St → Res St → Prop
  | .err a e, r => r = .err (a + d) e
  | .ok st, r => ∃ st', r = .ok st' ∧ Alike st st'
theorem add_alike {st st' : St} (h : Alike st st') (node span : Nat) (key : Str) (n : Nd) (s s' : Sp) (d : Nat) (hs : s'.keyFrom = s.keyFrom + d) (hn : node < st.nodes.length) :
    AlikeR d (add st node span key n s) (add st' node span key n s') := by
  unfold add
  rw [h.nodes]
  by_cases h1 : keyIn st.nodes node key = true
  · rw [if_pos h1, if_pos h1, hs]; rfl
  · rw [if_neg h1, if_neg h1]
    by_cases h2 : st.nodes.length + 2 > 4096
    · rw [if_pos h2, if_pos h2, hs]; rfl
    · rw [if_neg h2, if_neg h2]
      have hm : st.nodes[node]? = some st.nodes[node] := List.getElem?_eq_getElem hn
      simp only [hm]
      exact ⟨_, rfl, by simp, by simp [h.spans], h.notes, h.node, h.span⟩
theorem setTo_len (l : List Sp) (k to : Nat) : (setTo l k to).length = l.length := by
  unfold setTo; split <;> simp
theorem add_nodes {st st' : St} {node span : Nat} {key : Str} {n : Nd} {s : Sp} (h : add st node span key n s = .ok st') :
    st'.nodes.length = st.nodes.length + 2 ∧ st'.spans.length = st.spans.length + 1 ∧ st'.node = st.node ∧ st'.span = st.span ∧ st'.notes = st.notes := by
  unfold add at h
  split at h
  · cases h
  · split at h
    · cases h
    · simp only at h
      split at h
      · cases h
      · injection h with h
        subst h
        simp
theorem header_alike {st st' : St} (h : Alike st st') (r : Str) (a d : Nat) (h0 : 0 < st.nodes.length) : AlikeR d (header st r a) (header st' r (a + d)) := by
  unfold header
  simp only
  rw [show a + d + 1 + nB (List.drop 1 r) = a + 1 + nB (List.drop 1 r) + d from by omega, name_shift _ (a + 1 + nB (List.drop 1 r)) d]
  cases name (List.drop (nB (List.drop 1 r)) (List.drop 1 r)) (a + 1 + nB (List.drop 1 r)) 93 with
  | err x e => exact rfl
  | ok p =>
    obtain ⟨t, end_, i⟩ := p
    simp only [Nat.add_sub_add_right]
    split
    · simp only [AlikeR]
      rw [show i + d + nB (List.drop (i - a) r) = i + nB (List.drop (i - a) r) + d from by omega]
    · have ha := add_alike h 0 0 t ⟨10, [], [], []⟩ ⟨0, 0, 0, a, i, a + 1 + nB (List.drop 1 r), end_, false⟩ ⟨0, 0, 0, a + d, i + d, a + 1 + nB (List.drop 1 r) + d, end_ + d, false⟩ d rfl h0
      revert ha
      cases add st 0 0 t ⟨10, [], [], []⟩ ⟨0, 0, 0, a, i, a + 1 + nB (List.drop 1 r), end_, false⟩ with
      | err x e => intro ha; simp only [AlikeR] at ha ⊢; rw [ha]
      | ok s1 =>
        rintro ⟨s2, h2, h3⟩
        rw [h2]
        exact ⟨_, rfl, h3.nodes, h3.spans, h3.notes, by simp [h3.nodes], by simp [h3.spans]⟩
theorem entry_alike {st st' : St} (h : Alike st st') (r : Str) (a d : Nat) (h0 : st.node < st.nodes.length) : AlikeR d (entry st r a) (entry st' r (a + d)) := by
  unfold entry
  simp only
  rw [name_shift]
  cases name r a 61 with
  | err x e => exact rfl
  | ok p =>
    obtain ⟨key, end_, i⟩ := p
    simp only [Nat.add_sub_add_right]
    rw [show i + d + nB (List.drop (i - a) r) = i + nB (List.drop (i - a) r) + d from by omega, value_shift _ (i + nB (List.drop (i - a) r)) d]
    cases value (List.drop (nB (List.drop (i - a) r)) (List.drop (i - a) r)) (i + nB (List.drop (i - a) r)) with
    | err x e => exact rfl
    | ok p =>
      obtain ⟨t, to⟩ := p
      simp only
      have ha := add_alike h st.node st.span key ⟨5, t, [], []⟩ ⟨0, 0, 0, i + nB (List.drop (i - a) r), to, a, end_, true⟩ ⟨0, 0, 0, i + nB (List.drop (i - a) r) + d, to + d, a + d, end_ + d, true⟩ d rfl h0
      rw [h.node, h.span]
      revert ha
      cases add st st.node st.span key ⟨5, t, [], []⟩ ⟨0, 0, 0, i + nB (List.drop (i - a) r), to, a, end_, true⟩ with
      | err x e => intro ha; simp only [AlikeR] at ha ⊢; rw [ha]
      | ok s1 =>
        rintro ⟨s2, h2, h3⟩
        rw [h2]
        simp only
        split
        · exact ⟨_, rfl, h3.nodes, by simp [setTo_len, h3.spans], h3.notes, h3.node, h3.span⟩
        · exact ⟨_, rfl, h3⟩
/-- what every state of the parser keeps. -/
def Good (st : St) : Prop := 0 < st.nodes.length ∧ st.node < st.nodes.length
theorem line_alike {st st' : St} (h : Alike st st') (r : Str) (a d : Nat) (h0 : Good st) : AlikeR d (line st r a) (line st' r (a + d)) := by
  unfold line
  simp only
  split
  · exact ⟨_, rfl, h⟩
  · rw [show a + d + nB r = a + nB r + d from by omega]
    split
    · exact ⟨_, rfl, h.nodes, h.spans, by simp only [List.length_append, List.length_cons, List.length_nil]; have := h.notes; omega, h.node, h.span⟩
    · split
      · exact header_alike h _ _ _ h0.1
      · exact entry_alike h _ _ _ h0.2
theorem header_good {st st' : St} {r : Str} {a : Nat} (h : header st r a = .ok st') (h0 : Good st) : Good st' := by
  unfold header at h
  simp only at h
  split at h
  · cases h
  · split at h
    · cases h
    · split at h
      · cases h
      · rename_i s1 hs
        obtain ⟨h1, h2, h3, h4, h5⟩ := add_nodes hs
        injection h with h
        subst h
        have := h0.1
        constructor <;> simp <;> omega
theorem entry_good {st st' : St} {r : Str} {a : Nat} (h : entry st r a = .ok st') (h0 : Good st) : Good st' := by
  unfold entry at h
  simp only at h
  split at h
  · cases h
  · split at h
    · cases h
    · split at h
      · cases h
      · rename_i s1 hs
        obtain ⟨h1, h2, h3, h4, h5⟩ := add_nodes hs
        have h01 := h0.1
        have h02 := h0.2
        split at h
        · injection h with h
          subst h
          constructor <;> simp only <;> omega
        · injection h with h
          subst h
          constructor <;> omega
theorem line_good {st st' : St} {r : Str} {a : Nat} (h : line st r a = .ok st') (h0 : Good st) : Good st' := by
  unfold line at h
  simp only at h
  split at h
  · injection h with h; subst h; exact h0
  · split at h
    · injection h with h; subst h; exact h0
    · split at h
      · exact header_good h h0
      · exact entry_good h h0
theorem run_alike {st st' : St} (h : Alike st st') (r : Str) (a d : Nat) (h0 : Good st) : AlikeR d (run st r a) (run st' r (a + d)) := by
  generalize hn : r.length = n
  induction n using Nat.strongRecOn generalizing st st' r a with
  | ind n ih =>
    rcases split_cases r with h1 | ⟨l, q, rfl, h1⟩
    · rw [run_last _ _ _ h1, run_last _ _ _ h1]; exact line_alike h r a d h0
    · rw [run_line _ _ _ _ h1, run_line _ _ _ _ h1]
      have hl := line_alike h (cr l) a d h0
      cases hc : line st (cr l) a with
      | err x e => rw [hc] at hl; simp only [AlikeR] at hl; rw [hl]; exact rfl
      | ok s1 =>
        rw [hc] at hl
        obtain ⟨s2, h2, h3⟩ := hl
        rw [h2]
        simp only [List.length_append, List.length_cons] at hn
        show AlikeR d (run s1 q (a + l.length + 1)) (run s2 q (a + d + l.length + 1))
        rw [show a + d + l.length + 1 = a + l.length + 1 + d from by omega]
        exact ih q.length (by omega) h3 q _ (line_good hc h0) rfl
theorem run_good {st st' : St} {r : Str} {a : Nat} (h : run st r a = .ok st') (h0 : Good st) : Good st' := by
  generalize hn : r.length = n at *
  induction n using Nat.strongRecOn generalizing st r a with
  | ind n ih =>
    rcases split_cases r with h1 | ⟨l, q, rfl, h1⟩
    · rw [run_last _ _ _ h1] at h; exact line_good h h0
    · rw [run_line _ _ _ _ h1] at h
      cases hc : line st (cr l) a with
      | err x e => rw [hc] at h; cases h
      | ok s1 =>
        rw [hc] at h
        simp only [List.length_append, List.length_cons] at hn
        exact ih q.length (by omega) h (line_good hc h0) rfl
theorem start_good (n : Nat) : Good (start n) := by constructor <;> simp [start]
theorem Alike.trans {a b c : St} (h : Alike a b) (g : Alike b c) : Alike a c :=
  ⟨g.nodes.trans h.nodes, g.spans.trans h.spans, Nat.le_trans h.notes g.notes, g.node.trans h.node, g.span.trans h.span⟩
/-- what is put around a source. -/
def around : List Str := [[], [10], [32, 9, 13, 10], [59, 32, 91, 97, 93, 32, 61, 32, 34, 10], [9, 35, 32, 98, 10, 10]]
theorem around_cases {s : Str} (h : s ∈ around) : s = [] ∨ ∃ x, s = x ++ [10] := by
  simp only [around, List.mem_cons, List.not_mem_nil, or_false] at h
  rcases h with rfl | rfl | rfl | rfl | rfl
  · left; rfl
  · right; exact ⟨[], rfl⟩
  · right; exact ⟨[32, 9, 13], rfl⟩
  · right; exact ⟨[59, 32, 91, 97, 93, 32, 61, 32, 34], rfl⟩
  · right; exact ⟨[9, 35, 32, 98, 10], rfl⟩
theorem line_blank (st : St) (r : Str) (a : Nat) (h : r.drop (nB r) = []) : line st r a = .ok st := by
  unfold line; simp only [h]
theorem line_note (st : St) (r : Str) (a : Nat) (c : UInt8) (q : Str) (h : r.drop (nB r) = c :: q) (hc : c = 59 ∨ c = 35) : ∃ st', line st r a = .ok st' ∧ Alike st st' := by
  unfold line
  simp only [h, if_pos hc]
  exact ⟨_, rfl, rfl, rfl, by simp, rfl, rfl⟩
theorem Alike.refl (st : St) : Alike st st := ⟨rfl, rfl, Nat.le_refl _, rfl, rfl⟩
theorem run_around (st : St) (s : Str) (a : Nat) (h : s ∈ around) : ∃ st', run st s a = .ok st' ∧ Alike st st' := by
  simp only [around, List.mem_cons, List.not_mem_nil, or_false] at h
  rcases h with rfl | rfl | rfl | rfl | rfl
  · exact ⟨_, rfl, Alike.refl _⟩
  · exact ⟨st, by rw [show ([10] : Str) = [] ++ 10 :: [] from rfl, run_line _ _ _ _ (by simp)]; rfl, Alike.refl _⟩
  · exact ⟨st, by
      rw [show ([32, 9, 13, 10] : Str) = [32, 9, 13] ++ 10 :: [] from rfl, run_line _ _ _ _ (by decide)]
      rw [line_blank _ _ _ (by decide)]; rfl, Alike.refl _⟩
  · obtain ⟨st', h1, h2⟩ := line_note st [59, 32, 91, 97, 93, 32, 61, 32, 34] a 59 [32, 91, 97, 93, 32, 61, 32, 34] (by decide) (.inl rfl)
    refine ⟨st', ?_, h2⟩
    rw [show ([59, 32, 91, 97, 93, 32, 61, 32, 34, 10] : Str) = [59, 32, 91, 97, 93, 32, 61, 32, 34] ++ 10 :: [] from rfl, run_line _ _ _ _ (by decide)]
    rw [show cr [59, 32, 91, 97, 93, 32, 61, 32, 34] = [59, 32, 91, 97, 93, 32, 61, 32, 34] from by decide, h1]
    rfl
  · obtain ⟨st', h1, h2⟩ := line_note st [9, 35, 32, 98] a 35 [32, 98] (by decide) (.inr rfl)
    refine ⟨st', ?_, h2⟩
    rw [show ([9, 35, 32, 98, 10, 10] : Str) = [9, 35, 32, 98] ++ 10 :: [10] from rfl, run_line _ _ _ _ (by decide)]
    rw [show cr [9, 35, 32, 98] = [9, 35, 32, 98] from by decide, h1]
    show run st' [10] _ = _
    rw [show ([10] : Str) = [] ++ 10 :: [] from rfl, run_line _ _ _ _ (by simp)]; rfl
theorem bad_around {s : Str} (h : s ∈ around) : bad s = none ∧ ctl s 0 = none ∧ s.length ≤ 10 := by
  simp only [around, List.mem_cons, List.not_mem_nil, or_false] at h
  rcases h with rfl | rfl | rfl | rfl | rfl <;> decide
theorem bad_end (x : Str) : bad (x ++ [10]) = bad x := by
  rw [bad_app x [] 10 (by decide)]
  cases bad x <;> rfl
theorem parse_eq (s : Str) (h : s.length ≤ 65536) : parse s = match bad s with
    | some a => .err a 11
    | none => match ctl s 0 with
      | some a => .err a 4
      | none => run (start s.length) s 0 := by
  unfold parse
  rw [if_neg (by omega)]
  rfl
theorem bad_pre {s : Str} (h : s ∈ around) (t : Str) : bad (s ++ t) = (bad t).map (· + s.length) := by
  have hb := (bad_around h).1
  rcases around_cases h with rfl | ⟨x, rfl⟩
  · simp
  · rw [bad_end] at hb
    rw [List.append_assoc, List.singleton_append, bad_app x t 10 (by decide), hb]
    simp
theorem ctl_pre {s : Str} (h : s ∈ around) (t : Str) : ctl (s ++ t) 0 = (ctl t 0).map (· + s.length) := by
  have hc := (bad_around h).2.1
  rcases around_cases h with rfl | ⟨x, rfl⟩
  · simp
  · rw [List.append_assoc, List.singleton_append, ctl_join x t 0 hc, show 0 + x.length + 1 = 0 + (x.length + 1) from by omega, ctl_shift]
    simp
theorem run_pre {s : Str} (h : s ∈ around) (st : St) (t : Str) : ∃ st', run st (s ++ t) 0 = run st' t s.length ∧ Alike st st' := by
  rcases around_cases h with rfl | ⟨x, rfl⟩
  · exact ⟨st, rfl, Alike.refl _⟩
  · obtain ⟨st', h1, h2⟩ := run_around st _ 0 h
    refine ⟨st', ?_, h2⟩
    rw [List.append_assoc, List.singleton_append, run_join, h1]
    show run st' t _ = _
    rw [show 0 + x.length + 1 = (x ++ [10]).length from by simp]
/-- empty lines and comments around a source. -/
theorem parse_around (src s t : Str) (hs : s ∈ around) (ht : t ∈ around) (hl : src.length ≤ 500) (hr : src.getLast? ≠ some 13) :
    match parse src with
    | .err a e => parse (s ++ (src ++ 10 :: t)) = .err (s.length + a) e
    | .ok st => ∃ st', parse (s ++ (src ++ 10 :: t)) = .ok st' ∧ Alike st st' := by
  have h1 := (bad_around hs).2.2
  have h2 := bad_around ht
  rw [parse_eq src (by omega), parse_eq _ (by simp; omega)]
  rw [bad_pre hs, bad_app src t 10 (by decide), h2.1]
  cases bad src with
  | some a => simp [Nat.add_comm]
  | none =>
    simp only [Option.map_none]
    rw [ctl_pre hs, ctl_app src t hr 0]
    cases ctl src 0 with
    | some a => simp [Nat.add_comm]
    | none =>
      have hct : ctl t (0 + src.length + 1) = none := by
        rw [show 0 + src.length + 1 = 0 + (src.length + 1) from by omega, ctl_shift, h2.2.1]; rfl
      simp only [hct, Option.map_none]
      obtain ⟨s1, e1, a1⟩ := run_pre hs (start (s ++ (src ++ 10 :: t)).length) (src ++ 10 :: t)
      rw [e1, run_join, run_end _ _ _ hr]
      have a0 : Alike (start src.length) s1 := by
        refine ⟨a1.nodes, a1.spans, ?_, a1.node, a1.span⟩
        simp [start]
      have hal := run_alike a0 src 0 s.length (start_good _)
      rw [Nat.zero_add] at hal
      cases hrun : run (start src.length) src 0 with
      | err a e =>
        rw [hrun] at hal
        simp only [AlikeR] at hal
        rw [Nat.zero_add] at *
        rw [hal]
        simp [Res.bind', Nat.add_comm]
      | ok st =>
        rw [hrun] at hal
        obtain ⟨s2, e2, a2⟩ := hal
        rw [e2]
        obtain ⟨s3, e3, a3⟩ := run_around s2 t (s.length + src.length + 1) ht
        exact ⟨s3, e3, a2.trans a3⟩
end Ini
end Go.Proofs.YtegdemnfjmaicaaDoor
namespace Go.Proofs.YtegdemnfjmaicaaDoor
namespace Ini
theorem qgo_err (n : Nat) (r : Str) (a : Nat) (acc : Str) (x e : Nat) (h : qgo n r a acc = .err x e) : e = 4 ∨ e = 11 := by
  induction n generalizing r a acc with
  | zero => unfold qgo at h; injection h with _ h; exact .inl h.symm
  | succ n ih =>
    unfold qgo at h
    split at h
    · injection h with _ h; exact .inl h.symm
    · rename_i c q
      split at h
      · cases h
      · split at h
        · exact ih _ _ _ h
        · split at h
          · rename_i y e' he
            injection h with _ h
            have := esc_err _ _ _ he
            omega
          · exact ih _ _ _ h
theorem quoted_err (r : Str) (a x e : Nat) (h : quoted r a = .err x e) : e = 4 ∨ e = 11 := qgo_err _ _ _ _ _ _ h
theorem name_err (r : Str) (a : Nat) (m : UInt8) (x e : Nat) (h : name r a m = .err x e) : e = 4 ∨ e = 11 := by
  unfold name at h
  split at h
  · split at h
    · rename_i y e' he
      injection h with _ h
      have := quoted_err _ _ _ _ he
      omega
    · simp only at h
      split at h
      · cases h
      · injection h with _ h; exact .inl h.symm
  · simp only at h
    split at h
    · injection h with _ h; exact .inl h.symm
    · split at h
      · injection h with _ h; exact .inl h.symm
      · cases h
theorem value_err (r : Str) (a x e : Nat) (h : value r a = .err x e) : e = 4 ∨ e = 11 := by
  unfold value at h
  split at h
  · split at h
    · rename_i y e' he
      injection h with _ h
      have := quoted_err _ _ _ _ he
      omega
    · simp only at h
      split at h
      · injection h with _ h; exact .inl h.symm
      · cases h
  · cases h
theorem add_err (st : St) (node span : Nat) (key : Str) (n : Nd) (s : Sp) (hn : node < st.nodes.length) (x e : Nat) (h : add st node span key n s = .err x e) : e = 7 ∨ e = 8 := by
  rcases add_cases st node span key n s hn with h1 | h1 | ⟨_, _, h1⟩
  · rw [h1] at h; injection h with _ h; exact .inr h.symm
  · rw [h1] at h; injection h with _ h; exact .inl h.symm
  · rw [h1] at h; cases h
theorem header_err (st : St) (r : Str) (a x e : Nat) (hs : Good st) (h : header st r a = .err x e) : e ≠ 0 := by
  unfold header at h
  simp only at h
  split at h
  · rename_i y e' he
    injection h with _ h
    have := name_err _ _ _ _ _ he
    omega
  · split at h
    · injection h with _ h; omega
    · split at h
      · rename_i y e' he
        injection h with _ h
        have := add_err _ _ _ _ _ _ hs.1 _ _ he
        omega
      · cases h
theorem entry_err (st : St) (r : Str) (a x e : Nat) (hs : Good st) (h : entry st r a = .err x e) : e ≠ 0 := by
  unfold entry at h
  simp only at h
  split at h
  · rename_i y e' he
    injection h with _ h
    have := name_err _ _ _ _ _ he
    omega
  · split at h
    · rename_i y e' he
      injection h with _ h
      have := value_err _ _ _ _ he
      omega
    · split at h
      · rename_i y e' he
        injection h with _ h
        have := add_err _ _ _ _ _ _ hs.2 _ _ he
        omega
      · split at h <;> cases h
theorem line_err (st : St) (r : Str) (a x e : Nat) (hs : Good st) (h : line st r a = .err x e) : e ≠ 0 := by
  unfold line at h
  simp only at h
  split at h
  · cases h
  · split at h
    · cases h
    · split at h
      · exact header_err _ _ _ _ _ hs h
      · exact entry_err _ _ _ _ _ hs h
theorem runs_ne (s : Str) (xs : List (Nat × Nat)) (st : St) (x e : Nat) (hs : Good st) (h : runs s xs st = .err x e) : e ≠ 0 := by
  induction xs generalizing st with
  | nil => cases h
  | cons y ys ih =>
    simp only [runs] at h
    cases hl : line st (sgm s y.1 y.2) y.1 with
    | err a e' =>
      rw [hl] at h
      injection h with _ h
      have := line_err _ _ _ _ _ hs hl
      omega
    | ok st' =>
      rw [hl] at h
      exact ih st' (line_good hl hs) h
theorem parse_ne (s : Str) (x e : Nat) (h : parse s = .err x e) : e ≠ 0 := by
  unfold parse at h
  split at h
  · injection h with _ h; omega
  · split at h
    · injection h with _ h; omega
    · split at h
      · injection h with _ h; omega
      · rw [lines_runs] at h
        exact runs_ne _ _ _ _ _ (start_good _) h
end Ini
end Go.Proofs.YtegdemnfjmaicaaDoor
namespace Go.Proofs.YtegdemnfjmaicaaDoor
namespace Ini
theorem nB_len (r : Str) : nB r ≤ r.length := by unfold nB; exact (List.takeWhile_sublist _).length_le
theorem qgo_off (n : Nat) (r : Str) (a : Nat) (acc : Str) (x e : Nat) (h : qgo n r a acc = .err x e) : x ≤ a + r.length := by
  induction n generalizing r a acc with
  | zero => unfold qgo at h; injection h with h; omega
  | succ n ih =>
    unfold qgo at h
    split at h
    · injection h with h; omega
    · rename_i c q
      split at h
      · cases h
      · split at h
        · have := ih _ _ _ h
          simp
          omega
        · split at h
          · injection h with h; omega
          · rename_i t k he
            have h1 := esc_len _ _ _ he
            have h2 := ih _ _ _ h
            rw [List.length_drop] at h2
            omega
theorem quoted_off (r : Str) (a x e : Nat) (hr : r ≠ []) (h : quoted r a = .err x e) : x ≤ a + r.length := by
  have := qgo_off _ _ _ _ _ _ h
  cases r with
  | nil => exact absurd rfl hr
  | cons c q => simp at this ⊢; omega
theorem quoted_ok (r : Str) (a : Nat) (t : Str) (i : Nat) (hr : r ≠ []) (h : quoted r a = .ok (t, i)) : a ≤ i ∧ i ≤ a + r.length := by
  have := qgo_bounds _ _ _ _ _ _ h
  cases r with
  | nil => exact absurd rfl hr
  | cons c q => simp at this ⊢; omega
theorem head_ne {r : Str} {c : UInt8} (h : r.head? = some c) : r ≠ [] := by rintro rfl; cases h
theorem head_len {r : Str} {c : UInt8} (h : r.head? = some c) : 0 < r.length := List.length_pos_iff.2 (head_ne h)
theorem name_off (r : Str) (a : Nat) (m : UInt8) (x e : Nat) (h : name r a m = .err x e) : x ≤ a + r.length := by
  unfold name at h
  split at h
  · rename_i h0
    split at h
    · rename_i y e' he
      injection h with h
      have := quoted_off _ _ _ _ (head_ne h0) he
      omega
    · rename_i t i he
      simp only at h
      have h1 := quoted_ok _ _ _ _ (head_ne h0) he
      split at h
      · cases h
      · injection h with h
        have h2 := nB_len (r.drop (i - a))
        rw [List.length_drop] at h2
        omega
  · simp only at h
    split at h
    · injection h with h; omega
    · split at h
      · injection h with h; omega
      · cases h
theorem name_ok (r : Str) (a : Nat) (m : UInt8) (t : Str) (i j : Nat) (h : name r a m = .ok (t, i, j)) : a ≤ j ∧ j ≤ a + r.length := by
  unfold name at h
  split at h
  · rename_i h0
    split at h
    · cases h
    · rename_i t' i' he
      simp only at h
      have h1 := quoted_ok _ _ _ _ (head_ne h0) he
      split at h
      · rename_i h3
        injection h with h
        injection h with _ h
        injection h with _ h
        have h4 := head_len h3
        rw [List.length_drop, List.length_drop] at h4
        omega
      · cases h
  · simp only at h
    split at h
    · cases h
    · split at h
      · cases h
      · rename_i h3
        injection h with h
        injection h with _ h
        injection h with _ h
        have h4 : (r.takeWhile (fun c => decide (c ≠ m))).length ≤ r.length := (List.takeWhile_sublist _).length_le
        omega
theorem value_off (r : Str) (a x e : Nat) (h : value r a = .err x e) : x ≤ a + r.length := by
  unfold value at h
  split at h
  · rename_i h0
    split at h
    · rename_i y e' he
      injection h with h
      have := quoted_off _ _ _ _ (head_ne h0) he
      omega
    · rename_i t i he
      simp only at h
      have h1 := quoted_ok _ _ _ _ (head_ne h0) he
      split at h
      · injection h with h
        have h2 := nB_len (r.drop (i - a))
        rw [List.length_drop] at h2
        omega
      · cases h
  · cases h
theorem add_off (st : St) (node span : Nat) (key : Str) (n : Nd) (s : Sp) (hn : node < st.nodes.length) (x e : Nat) (h : add st node span key n s = .err x e) : x = s.keyFrom := by
  rcases add_cases st node span key n s hn with h1 | h1 | ⟨_, _, h1⟩
  · rw [h1] at h; injection h with h _; exact h.symm
  · rw [h1] at h; injection h with h _; exact h.symm
  · rw [h1] at h; cases h
theorem header_off (st : St) (r : Str) (a x e : Nat) (hs : Good st) (hr : r ≠ []) (h : header st r a = .err x e) : x ≤ a + r.length := by
  have hl : 0 < r.length := List.length_pos_iff.2 hr
  have hb := nB_len (r.drop 1)
  rw [List.length_drop] at hb
  unfold header at h
  simp only at h
  split at h
  · rename_i y e' he
    injection h with h
    have := name_off _ _ _ _ _ he
    rw [List.length_drop, List.length_drop] at this
    omega
  · rename_i t en i he
    have hj := name_ok _ _ _ _ _ _ he
    rw [List.length_drop, List.length_drop] at hj
    have h2 := nB_len (r.drop (i - a))
    rw [List.length_drop] at h2
    split at h
    · injection h with h
      omega
    · split at h
      · rename_i y e' ha
        injection h with h
        have := add_off _ _ _ _ _ _ hs.1 _ _ ha
        simp only at this
        omega
      · cases h
theorem entry_off (st : St) (r : Str) (a x e : Nat) (hs : Good st) (h : entry st r a = .err x e) : x ≤ a + r.length := by
  unfold entry at h
  simp only at h
  split at h
  · rename_i y e' he
    injection h with h
    have := name_off _ _ _ _ _ he
    omega
  · rename_i key en i he
    have hj := name_ok _ _ _ _ _ _ he
    have h2 := nB_len (r.drop (i - a))
    rw [List.length_drop] at h2
    split at h
    · rename_i y e' hv
      injection h with h
      have := value_off _ _ _ _ hv
      rw [List.length_drop, List.length_drop] at this
      omega
    · split at h
      · rename_i y e' ha
        injection h with h
        have := add_off _ _ _ _ _ _ hs.2 _ _ ha
        simp only at this
        omega
      · split at h <;> cases h
theorem line_off (st : St) (r : Str) (a x e : Nat) (hs : Good st) (h : line st r a = .err x e) : x ≤ a + r.length := by
  have hb := nB_len r
  unfold line at h
  simp only at h
  split at h
  · cases h
  · rename_i c q hq
    have hl : (r.drop (nB r)).length = r.length - nB r := List.length_drop
    split at h
    · cases h
    · split at h
      · have := header_off _ _ _ _ _ hs (by rw [hq]; simp) h
        omega
      · have := entry_off _ _ _ _ _ hs h
        omega
theorem runs_off (s : Str) (xs : List (Nat × Nat)) (st : St) (x e : Nat) (hs : Good st) (hx : ∀ y ∈ xs, y.1 ≤ y.2 ∧ y.2 ≤ s.length) (h : runs s xs st = .err x e) : x ≤ s.length := by
  induction xs generalizing st with
  | nil => cases h
  | cons y ys ih =>
    simp only [runs] at h
    obtain ⟨h1, h2⟩ := hx y (List.mem_cons_self ..)
    cases hl : line st (sgm s y.1 y.2) y.1 with
    | err a e' =>
      rw [hl] at h
      injection h with h
      have := line_off _ _ _ _ _ hs hl
      unfold sgm at this
      rw [List.length_drop, List.length_take] at this
      omega
    | ok st' =>
      rw [hl] at h
      exact ih st' (line_good hl hs) (fun z hz => hx z (List.mem_cons_of_mem _ hz)) h
theorem badU_off (n : Nat) (r : Str) (i k : Nat) (h : badU n r i = some k) : k ≤ i + r.length := by
  induction n generalizing r i with
  | zero => cases h
  | succ n ih =>
    cases r with
    | nil => cases h
    | cons c q =>
      have hd := dec_len (c :: q) (by simp)
      rw [show badU (n + 1) (c :: q) i = if (dec (c :: q)).1 = 65533 ∧ (dec (c :: q)).2 = 1 then some i else badU n ((c :: q).drop (dec (c :: q)).2) (i + (dec (c :: q)).2) from rfl] at h
      split at h
      · injection h with h; omega
      · have := ih _ _ h
        rw [List.length_drop] at this
        omega
theorem ctl_off (r : Str) (i k : Nat) (h : ctl r i = some k) : k ≤ i + r.length := by
  induction r generalizing i with
  | nil => cases h
  | cons c r ih =>
    rw [ctl_cons] at h
    split at h
    · injection h with h; simp; omega
    · have := ih _ h
      simp
      omega
theorem parse_off (s : Str) (x e : Nat) (h : parse s = .err x e) : x ≤ s.length := by
  unfold parse at h
  split at h
  · injection h with h; omega
  · split at h
    · rename_i k hk
      injection h with h
      have := badU_off _ _ _ _ hk
      omega
    · split at h
      · rename_i k hk
        injection h with h
        have := ctl_off _ _ _ hk
        omega
      · rw [lines_runs] at h
        refine runs_off _ _ _ _ _ (start_good _) ?_ h
        intro y hy
        have := lineR_bounds s.length s 0 (Nat.le_refl _) y hy
        omega
end Ini
end Go.Proofs.YtegdemnfjmaicaaDoor

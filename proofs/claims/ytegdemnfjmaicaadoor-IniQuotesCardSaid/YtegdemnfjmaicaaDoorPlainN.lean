/- The plain parser at a source whose notes are cut out: the same graph, and no note. -/
import Derived.Test.YtegdemnfjmaicaaDoorPlainS
namespace Go.Proofs.YtegdemnfjmaicaaDoor
namespace Ini
/-- the notes of a source that stands at a, and what is left of it without them. -/
inductive Cut : Str → Nat → List Note → Str → Prop
  | nil (r : Str) (a : Nat) : Cut r a [] r
  | cons {p q z t : Str} {a : Nat} {ns : List Note} (n : Note) (hf : n.from_ = a + p.length) (ht : n.to_ = a + p.length + q.length) (hx : n.text = q)
      (hq : ∃ c y, q = c :: y ∧ (c = 59 ∨ c = 35)) (hz : z = [] ∨ ∃ c y, z = c :: y ∧ (c = 10 ∨ c = 13)) (h : Cut z (a + p.length + q.length) ns t) :
      Cut (p ++ q ++ z) a (n :: ns) (p ++ t)
theorem Cut.pre (x : Str) {r t : Str} {a b : Nat} {ns : List Note} (h : Cut r b ns t) (hb : b = a + x.length) : Cut (x ++ r) a ns (x ++ t) := by
  subst hb
  cases h with
  | nil => exact .nil _ _
  | @cons p q z t _ ns n hf ht hx hq hz h =>
    rw [show x ++ (p ++ q ++ z) = (x ++ p) ++ q ++ z from by simp, ← List.append_assoc]
    refine .cons n ?_ ?_ hx hq hz ?_
    · rw [hf]; simp; omega
    · rw [ht]; simp; omega
    · rw [show a + (x ++ p).length + q.length = a + x.length + p.length + q.length from by simp; omega]; exact h
theorem add_same {st st' : St} {node span : Nat} {key : Str} {n : Nd} {s : Sp} (h : add st node span key n s = .ok st') : st'.notes = st.notes := by
  unfold add at h
  split at h
  · cases h
  · split at h
    · cases h
    · simp only at h
      split at h
      · cases h
      · injection h with h; subst h; rfl
/-- a line that is a note. -/
def IsNote (r : Str) : Prop := ∃ c y, r.drop (nB r) = c :: y ∧ (c = 59 ∨ c = 35)
theorem line_other {st st' : St} {r : Str} {a : Nat} (hn : ¬ IsNote r) (h : line st r a = .ok st') : st'.notes = st.notes := by
  unfold line at h
  simp only at h
  split at h
  · injection h with h; subst h; rfl
  · rename_i c y hc
    split at h
    · rename_i h1
      exact absurd ⟨c, y, hc, h1⟩ hn
    · split at h
      · unfold header at h
        simp only at h
        split at h
        · cases h
        · split at h
          · cases h
          · split at h
            · cases h
            · rename_i st1 e1
              injection h with h; subst h
              show st1.notes = _
              exact add_same e1
      · unfold entry at h
        simp only at h
        split at h
        · cases h
        · split at h
          · cases h
          · split at h
            · cases h
            · rename_i st1 e1
              have := add_same e1
              split at h
              · injection h with h; subst h; exact this
              · injection h with h; subst h; exact this
theorem line_isnote {st : St} {r : Str} {a : Nat} (h : IsNote r) : line st r a = .ok { st with notes := st.notes ++ [⟨a + nB r, a + r.length, r.drop (nB r)⟩] } := by
  obtain ⟨c, y, h1, h2⟩ := h
  unfold line
  simp only [h1, if_pos h2]
/-- the blanks ahead of a note. -/
theorem nB_cons (c : UInt8) (r : Str) : nB (c :: r) = if isB c then nB r + 1 else 0 := by
  unfold nB
  by_cases h : isB c <;> simp [h]
theorem lead_all {r : Str} : ∀ c ∈ r.take (nB r), c = 32 ∨ c = 9 := by
  induction r with
  | nil => intro c hc; simp at hc
  | cons d r ih =>
    intro c hc
    rw [nB_cons] at hc
    by_cases h : isB d
    · rw [if_pos h, List.take_succ_cons] at hc
      rcases List.mem_cons.1 hc with rfl | hc
      · simpa [isB] using h
      · exact ih c hc
    · rw [if_neg h] at hc; simp at hc
theorem lead_blank {B : Str} (h : ∀ c ∈ B, c = 32 ∨ c = 9) : B.drop (nB B) = [] := by
  induction B with
  | nil => rfl
  | cons c B ih =>
    rw [nB_cons, if_pos (by rcases h c (by simp) with rfl | rfl <;> rfl), List.drop_succ_cons]
    exact ih (fun d hd => h d (by simp [hd]))
theorem lead_10 {B : Str} (h : ∀ c ∈ B, c = 32 ∨ c = 9) : (10 : UInt8) ∉ B := fun hc => by rcases h _ hc with e | e <;> cases e
theorem lead_13 {B : Str} (h : ∀ c ∈ B, c = 32 ∨ c = 9) : B.getLast? ≠ some 13 := fun e => by rcases h _ (List.mem_of_getLast? e) with e | e <;> cases e
theorem dec_ascii (c : UInt8) (r : Str) (hc : c.toNat < 128) : dec (c :: r) = (c.toNat, 1) := by
  unfold dec
  simp only [List.getD_cons_zero]
  rw [if_pos hc]
theorem bad_cons (c : UInt8) (r : Str) (hc : c.toNat < 128) : bad (c :: r) = (bad r).map (· + 1) := by
  have := bad_app [] r c hc
  simpa [bad, badU] using this
theorem bad_lead {B : Str} (h : ∀ c ∈ B, c = 32 ∨ c = 9 ∨ c = 13) : bad B = none := by
  induction B with
  | nil => rfl
  | cons c B ih =>
    rw [bad_cons _ _ (by rcases h c (by simp) with rfl | rfl | rfl <;> decide), ih (fun d hd => h d (by simp [hd]))]
    rfl
theorem ctl_none (r : Str) (i j : Nat) (h : ctl r i = none) : ctl r j = none := by
  have h1 := ctl_shift r 0 i
  have h2 := ctl_shift r 0 j
  rw [Nat.zero_add] at h1 h2
  rw [h1] at h
  rw [h2]
  cases hc : ctl r 0 with
  | none => rfl
  | some x => rw [hc] at h; cases h
theorem ctl_part (x t : Str) (i : Nat) : ctl (x ++ 10 :: t) i = none ↔ ctl (x ++ [10]) 0 = none ∧ ctl t 0 = none := by
  constructor
  · intro h
    have h1 : ctl (x ++ [10]) i = none := by
      induction x generalizing i with
      | nil => rfl
      | cons c x ih =>
        have hh : (x ++ 10 :: t).head? = (x ++ [10]).head? := by cases x <;> simp
        simp only [List.cons_append, ctl, hh] at h ⊢
        split at h
        · cases h
        · rename_i hif
          rw [if_neg hif]; exact ih _ h
    exact ⟨ctl_none _ _ _ h1, ctl_none _ _ _ ((ctl_join x t i h1).symm.trans h)⟩
  · rintro ⟨h1, h2⟩
    exact ctl_none _ 0 _ ((ctl_join x t 0 h1).trans (ctl_none _ _ _ h2))
theorem ctl_lead {B : Str} (h : ∀ c ∈ B, c = 32 ∨ c = 9) (i : Nat) (z : Str) : ctl (B ++ z) i = none ↔ ctl z 0 = none := by
  induction B generalizing i with
  | nil => exact ⟨fun h => ctl_none _ _ _ h, fun h => ctl_none _ _ _ h⟩
  | cons c B ih =>
    rw [List.cons_append, ctl_cons, if_neg (by rcases h c (by simp) with rfl | rfl <;> simp)]
    exact ih (fun d hd => h d (by simp [hd])) _
theorem cr_parts (l : Str) : (l = cr l ∧ l.getLast? ≠ some 13) ∨ l = cr l ++ [13] := by
  unfold cr
  split
  · rename_i h
    right
    rw [← List.dropLast_concat_getLast (l := l) (by rintro rfl; cases h)]
    rw [List.getLast?_eq_some_getLast (by rintro rfl; cases h)] at h
    injection h with h
    simp [h]
  · rename_i h
    exact .inl ⟨rfl, h⟩
theorem cut_run {st st' st2 : St} {r : Str} {a b : Nat} (hb : b ≤ a) (h : run st r a = .ok st') (hal : Alike st2 st) (hg : Good st2) (hbad : bad r = none) (hctl : ctl r 0 = none) :
    ∃ ns t st3, st'.notes = st.notes ++ ns ∧ Cut r a ns t ∧ run st2 t b = .ok st3 ∧ Alike st3 st' ∧ st3.notes = st2.notes ∧ bad t = none ∧ ctl t 0 = none ∧ t.length ≤ r.length := by
  generalize hn : r.length = n at *
  induction n using Nat.strongRecOn generalizing st st2 r a b with
  | ind n ih =>
    have same : ∀ {st1 : St} {l : Str}, line st l a = .ok st1 → ¬ IsNote l → ∃ s3, line st2 l b = .ok s3 ∧ Alike s3 st1 ∧ s3.notes = st2.notes ∧ Good s3 ∧ st1.notes = st.notes := by
      intro st1 l h1 hno
      have := line_alike hal l b (a - b) hg
      rw [show b + (a - b) = a from by omega, h1] at this
      cases hc : line st2 l b with
      | err x e => rw [hc] at this; cases this
      | ok s3 =>
        rw [hc] at this
        obtain ⟨s4, e4, h4⟩ := this
        injection e4 with e4
        subst e4
        exact ⟨s3, rfl, h4, line_other hno hc, line_good hc hg, line_other hno h1⟩
    rcases split_cases r with h1 | ⟨l, q, rfl, h1⟩
    · rw [run_last _ _ _ h1] at h
      by_cases hno : IsNote r
      · rw [line_isnote hno] at h
        injection h with h
        subst h
        have hB := lead_all (r := r)
        refine ⟨[_], r.take (nB r) ++ [], st2, rfl, ?_, ?_, ⟨hal.nodes, hal.spans, by have := hal.notes; simp; omega, hal.node, hal.span⟩, rfl, ?_, ?_, ?_⟩
        · have hr : r = r.take (nB r) ++ r.drop (nB r) ++ [] := by simp
          have hl : (r.take (nB r)).length = nB r := by rw [List.length_take]; exact Nat.min_eq_left (nB_len r)
          have hl2 : (r.drop (nB r)).length = r.length - nB r := by simp
          have := nB_len r
          obtain ⟨c, y, e1, e2⟩ := hno
          have hcut := Cut.cons (p := r.take (nB r)) (q := r.drop (nB r)) (z := []) (t := []) (a := a) (ns := []) ⟨a + nB r, a + r.length, r.drop (nB r)⟩ (by rw [hl]) (by rw [hl, hl2]; show a + r.length = _; omega) rfl ⟨c, y, e1, e2⟩ (.inl rfl) (.nil _ _)
          rw [← hr] at hcut
          exact hcut
        · rw [List.append_nil, run_last _ _ _ (lead_10 hB)]
          exact line_blank _ _ _ (lead_blank hB)
        · rw [List.append_nil]; exact bad_lead (fun c hc => by rcases hB c hc with h | h <;> simp [h])
        · exact (ctl_lead hB 0 []).2 rfl
        · simp; omega
      · obtain ⟨s3, e3, h3, h4, _, h5⟩ := same h hno
        exact ⟨[], r, s3, by simp [h5], .nil _ _, by rw [run_last _ _ _ h1]; exact e3, h3, h4, hbad, hctl, by omega⟩
    · rw [run_line _ _ _ _ h1] at h
      rw [List.length_append, List.length_cons] at hn
      have hb1 : bad l = none ∧ bad q = none := by
        rw [bad_app l q 10 (by decide)] at hbad
        cases hl : bad l with
        | some j => rw [hl] at hbad; cases hbad
        | none =>
          rw [hl] at hbad
          cases hq : bad q with
          | some j => rw [hq] at hbad; cases hbad
          | none => exact ⟨rfl, rfl⟩
      have hc1 := (ctl_part l q 0).1 hctl
      cases hc : line st (cr l) a with
      | err x e => rw [hc] at h; cases h
      | ok s1 =>
        rw [hc] at h
        have h : run s1 q (a + l.length + 1) = .ok st' := h
        by_cases hno : IsNote (cr l)
        · rw [line_isnote hno] at hc
          injection hc with hc
          subst hc
          have hB := lead_all (r := cr l)
          obtain ⟨B, hBe⟩ : ∃ B, (cr l).take (nB (cr l)) = B := ⟨_, rfl⟩
          have hBl : B.length = nB (cr l) := by rw [← hBe, List.length_take]; exact Nat.min_eq_left (nB_len _)
          have hBd : (cr l).drop (nB (cr l)) = (cr l).drop B.length := by rw [hBl]
          have hBr : cr l = B ++ (cr l).drop B.length := by rw [hBl, ← hBe]; simp
          rw [hBe] at hB
          obtain ⟨z, hz, hz2⟩ : ∃ z : Str, l = cr l ++ z ∧ (z = [] ∨ z = [13]) := by
            rcases cr_parts l with ⟨e, _⟩ | e
            · exact ⟨[], by rw [List.append_nil]; exact e, .inl rfl⟩
            · exact ⟨[13], e, .inr rfl⟩
          have hzl : l.length = (cr l).length + z.length := by
            have := congrArg List.length hz
            rw [List.length_append] at this; exact this
          have hcl : (cr l).length = B.length + ((cr l).drop B.length).length := by
            have := congrArg List.length hBr
            rw [List.length_append] at this; exact this
          have hb2 : b + (B ++ z).length + 1 ≤ a + l.length + 1 := by rw [List.length_append]; omega
          obtain ⟨ns, t, st3, i1, i2, i3, i4, i5, i6, i7, i8⟩ := ih q.length (by omega) (st2 := st2) hb2 h ⟨hal.nodes, hal.spans, by have := hal.notes; simp; omega, hal.node, hal.span⟩ hg hb1.2 hc1.2 rfl
          have h10 : (10 : UInt8) ∉ B ++ z := by
            intro hx
            rcases List.mem_append.1 hx with hx | hx
            · exact lead_10 hB hx
            · rcases hz2 with rfl | rfl
              · cases hx
              · simp at hx
          have hcr : cr (B ++ z) = B := by
            rcases hz2 with rfl | rfl
            · rw [List.append_nil]; exact cr_self _ (lead_13 hB)
            · unfold cr; rw [if_pos (by simp)]; simp
          refine ⟨⟨a + nB (cr l), a + (cr l).length, (cr l).drop (nB (cr l))⟩ :: ns, (B ++ z) ++ 10 :: t, st3, ?_, ?_, ?_, i4, i5, ?_, ?_, ?_⟩
          · rw [i1]; simp
          · obtain ⟨c, y, e1, e2⟩ := hno
            have hcut := Cut.cons (p := B) (q := (cr l).drop B.length) (z := z ++ 10 :: q) (t := z ++ 10 :: t) (a := a) (ns := ns) ⟨a + nB (cr l), a + (cr l).length, (cr l).drop (nB (cr l))⟩ (by rw [hBl]) (by show a + (cr l).length = _; omega) hBd ⟨c, y, hBd.symm.trans e1, e2⟩
              (.inr (by rcases hz2 with rfl | rfl; exact ⟨10, q, rfl, .inl rfl⟩; exact ⟨13, 10 :: q, rfl, .inr rfl⟩))
              (by
                have := Cut.pre (z ++ [10]) (a := a + B.length + ((cr l).drop B.length).length) i2 (by simp; omega)
                simpa using this)
            rw [← hBr, show cr l ++ (z ++ 10 :: q) = l ++ 10 :: q from by rw [← List.append_assoc, ← hz]] at hcut
            simpa using hcut
          · rw [run_line _ _ _ _ h10, hcr, line_blank _ _ _ (lead_blank hB)]
            exact i3
          · rw [bad_app (B ++ z) t 10 (by decide), bad_lead (fun c hc => by
              rcases List.mem_append.1 hc with hc | hc
              · rcases hB c hc with h | h <;> simp [h]
              · rcases hz2 with rfl | rfl
                · cases hc
                · simp at hc; simp [hc]), i6]
            rfl
          · rw [ctl_part]
            refine ⟨?_, i7⟩
            rw [List.append_assoc, ctl_lead hB]
            rcases hz2 with rfl | rfl <;> rfl
          · simp only [List.length_append, List.length_cons] at hb2 ⊢; omega
        · obtain ⟨s3, e3, h3, h4, h5, h6⟩ := same hc hno
          obtain ⟨ns, t, st3, i1, i2, i3, i4, i5, i6, i7, i8⟩ := ih q.length (by omega) (st2 := s3) (b := b + l.length + 1) (by omega) h h3 h5 hb1.2 hc1.2 rfl
          refine ⟨ns, l ++ 10 :: t, st3, by rw [i1, h6], ?_, ?_, i4, by rw [i5, h4], ?_, ?_, ?_⟩
          · have := Cut.pre (l ++ [10]) (a := a) i2 (by simp; omega)
            simpa using this
          · rw [run_line _ _ _ _ h1, e3]; exact i3
          · rw [bad_app l t 10 (by decide), hb1.1, i6]; rfl
          · exact (ctl_part l t 0).2 ⟨hc1.1, i7⟩
          · simp only [List.length_append, List.length_cons]; omega
/-- THE PLAIN LAW of IniNotes. -/
theorem parse_notes {src : Str} {st : St} (hl : src.length ≤ 65536) (h : parse src = .ok st) :
    ∃ t st', Cut src 0 st.notes t ∧ t.length ≤ src.length ∧ parse t = .ok st' ∧ st'.nodes = st.nodes ∧ st'.notes = [] := by
  rw [parse_eq src hl] at h
  cases hb : bad src with
  | some x => rw [hb] at h; cases h
  | none =>
    rw [hb] at h
    simp only at h
    cases hc : ctl src 0 with
    | some x => rw [hc] at h; cases h
    | none =>
      rw [hc] at h
      obtain ⟨ns, t, st3, i1, i2, i3, i4, i5, i6, i7, i8⟩ := cut_run (st2 := start src.length) (Nat.le_refl 0) h (Alike.refl _) (start_good _) hb hc
      have i1 : st.notes = ns := by rw [i1]; rfl
      subst i1
      have hs : Alike (start t.length) (start src.length) := ⟨rfl, rfl, Nat.le_refl _, rfl, rfl⟩
      have hru := run_alike hs t 0 0 (start_good _)
      rw [i3] at hru
      cases hr : run (start t.length) t 0 with
      | err x e => rw [hr] at hru; cases hru
      | ok s4 =>
        rw [hr] at hru
        obtain ⟨s5, e5, h5⟩ := hru
        injection e5 with e5
        subst e5
        refine ⟨t, s4, i2, i8, ?_, ?_, ?_⟩
        · rw [parse_eq t (by omega), i6, i7]; exact hr
        · rw [← h5.nodes, ← i4.nodes]
        · have := h5.notes
          rw [i5] at this
          exact List.eq_nil_of_length_eq_zero (Nat.le_zero.1 this)
end Ini
end Go.Proofs.YtegdemnfjmaicaaDoor

/- The spans of values, plain: the bytes of a value's span, as the value of a new entry, are read as the same text. A value's bytes as the value of a new entry: plain. Sources without sections, plain: what they leave, and what two of them leave that are put together. Quoted texts, plain: every text can be written as a quoted name, key or value. -/
import Derived.Test.YtegdemnfjmaicaaDoorPlainN
namespace Go.Proofs.YtegdemnfjmaicaaDoor
namespace Ini
/-- an escape reads its own bytes alone. -/
theorem esc_own (r : Str) (t : Str) (k : Nat) (h : esc r = .ok (t, k)) : ∃ q p, r = q ++ p ∧ q.length = k ∧ 2 ≤ k ∧ ∀ z, esc (q ++ z) = .ok (t, k) := by
  match r, h with
  | [], h => exact absurd h (by simp [esc])
  | [_], h => exact absurd h (by simp [esc])
  | x :: c :: q, h =>
    by_cases h1 : c = 92 ∨ c = 34
    · have e : ∀ z, esc (x :: c :: z) = .ok ([c], 2) := fun z => by simp only [esc, List.drop_succ_cons, List.drop_zero, if_pos h1]
      rw [e] at h; injection h with h; injection h with h2 h3; subst h2; subst h3
      exact ⟨[x, c], q, rfl, rfl, Nat.le_refl _, fun z => e z⟩
    · by_cases h2 : c = 110
      · have e : ∀ z, esc (x :: c :: z) = .ok ([10], 2) := fun z => by simp only [esc, List.drop_succ_cons, List.drop_zero, if_neg h1, if_pos h2]
        rw [e] at h; injection h with h; injection h with h2 h3; subst h2; subst h3
        exact ⟨[x, c], q, rfl, rfl, Nat.le_refl _, fun z => e z⟩
      · by_cases h3 : c = 114
        · have e : ∀ z, esc (x :: c :: z) = .ok ([13], 2) := fun z => by simp only [esc, List.drop_succ_cons, List.drop_zero, if_neg h1, if_neg h2, if_pos h3]
          rw [e] at h; injection h with h; injection h with h2 h3; subst h2; subst h3
          exact ⟨[x, c], q, rfl, rfl, Nat.le_refl _, fun z => e z⟩
        · by_cases h4 : c = 116
          · have e : ∀ z, esc (x :: c :: z) = .ok ([9], 2) := fun z => by simp only [esc, List.drop_succ_cons, List.drop_zero, if_neg h1, if_neg h2, if_neg h3, if_pos h4]
            rw [e] at h; injection h with h; injection h with h2 h3; subst h2; subst h3
            exact ⟨[x, c], q, rfl, rfl, Nat.le_refl _, fun z => e z⟩
          · by_cases h5 : c = 117
            · subst h5
              match q, h with
              | [], h => exact absurd h (by simp [esc])
              | b :: y, h =>
                by_cases hb : b = 123
                · subst hb
                  have eu : ∀ y, esc (x :: 117 :: 123 :: y) = (match (y.take 6).takeWhile isHex, y.drop ((y.take 6).takeWhile isHex).length with
                      | [], _ => .err 0 4
                      | _ :: _, [] => .err 0 4
                      | _ :: _, z :: _ => if z ≠ 125 then .err 0 4 else if isScalar (hexVal ((y.take 6).takeWhile isHex)) then .ok (enc (hexVal ((y.take 6).takeWhile isHex)), ((y.take 6).takeWhile isHex).length + 4) else .err 0 11) := fun y => rfl
                  rw [eu] at h
                  obtain ⟨ds, hds⟩ : ∃ ds, (y.take 6).takeWhile isHex = ds := ⟨_, rfl⟩
                  rw [hds] at h
                  have hall : ∀ d ∈ ds, isHex d = true := by intro d hd; rw [← hds] at hd; exact List.all_eq_true.1 List.all_takeWhile d hd
                  have hl6 : ds.length ≤ 6 := by rw [← hds]; exact Nat.le_trans (List.takeWhile_sublist _).length_le (by rw [List.length_take]; omega)
                  have hpre : ds <+: y := by rw [← hds]; exact (List.takeWhile_prefix _).trans (List.take_prefix _ _)
                  obtain ⟨w, rfl⟩ := hpre
                  rw [List.drop_left] at h
                  match ds, w, h, hds, hall, hl6 with
                  | [], _, h, _, _, _ => cases h
                  | _ :: _, [], h, _, _, _ => cases h
                  | d :: ds, z0 :: w, h, hds, hall, hl6 =>
                    simp only at h
                    by_cases hz : z0 ≠ 125
                    · rw [if_pos hz] at h; cases h
                    · rw [if_neg hz] at h
                      have hz : z0 = 125 := Classical.not_not.1 hz
                      subst hz
                      by_cases hs : isScalar (hexVal (d :: ds)) = true
                      · rw [if_pos hs] at h
                        injection h with h; injection h with h2 h3; subst h2; subst h3
                        refine ⟨x :: 117 :: 123 :: ((d :: ds) ++ [125]), w, by simp, by simp, by simp, fun z => ?_⟩
                        have e : x :: 117 :: 123 :: ((d :: ds) ++ [125]) ++ z = x :: 117 :: 123 :: ((d :: ds) ++ 125 :: z) := by simp
                        rw [e, eu]
                        have ht : (((d :: ds) ++ 125 :: z).take 6).takeWhile isHex = d :: ds := by
                          rw [List.take_append, List.take_of_length_le hl6, List.takeWhile_append_of_pos hall]
                          cases hk : 6 - (d :: ds).length with
                          | zero => simp
                          | succ m => simp [List.take_succ_cons, show isHex 125 = false from by decide]
                        rw [ht, List.drop_left]
                        simp only [ne_eq, not_true_eq_false, if_false, if_pos hs]
                      · rw [if_neg hs] at h; cases h
                · exact absurd h (by simp [esc, hb])
            · exact absurd h (by simp only [esc, List.drop_succ_cons, List.drop_zero, if_neg h1, if_neg h2, if_neg h3, if_neg h4, if_neg h5]; intro h; cases h)
/-- a quoted text reads its own bytes alone. -/
theorem Q_own (r : Str) (a : Nat) (acc : Str) (t : Str) (i : Nat) (h : Q r a acc = .ok (t, i)) :
    ∃ q p, r = q ++ p ∧ i = a + q.length ∧ ∀ z b, Q (q ++ z) b acc = .ok (t, b + q.length) := by
  generalize hn : r.length = n
  induction n using Nat.strongRecOn generalizing r a acc with
  | ind n ih =>
    match r, h, hn with
    | [], h, _ => cases h
    | c :: r, h, hn =>
      by_cases h1 : c = 34
      · subst h1
        rw [Q_end] at h
        injection h with h; injection h with h2 h3; subst h2; subst h3
        exact ⟨[34], r, rfl, rfl, fun z b => Q_end z b acc⟩
      · by_cases h2 : c = 92
        · subst h2
          rw [Q_esc] at h
          cases he : esc (92 :: r) with
          | err x e => rw [he] at h; cases h
          | ok p =>
            obtain ⟨u, k⟩ := p
            rw [he] at h
            simp only at h
            obtain ⟨q, p, hqp, hk, hk2, hz⟩ := esc_own _ _ _ he
            rw [hqp, ← hk, List.drop_left] at h
            have hl := congrArg List.length hqp
            simp only [List.length_cons, List.length_append] at hl hn
            obtain ⟨q2, p2, rfl, hi, hz2⟩ := ih p.length (by omega) p _ _ h rfl
            have hq0 : ∃ q', q = 92 :: q' := by
              cases q with
              | nil => simp at hk; omega
              | cons d q' => simp only [List.cons_append, List.cons.injEq] at hqp; exact ⟨q', by rw [← hqp.1]⟩
            obtain ⟨q', rfl⟩ := hq0
            refine ⟨(92 :: q') ++ q2, p2, by rw [hqp]; simp, by rw [hi]; simp; omega, fun z b => ?_⟩
            have h3 := hz (q2 ++ z)
            rw [List.append_assoc, List.cons_append, Q_esc, ← List.cons_append, h3]
            simp only
            rw [← hk, List.drop_left, hz2]
            simp; omega
        · rw [Q_byte _ _ _ _ h1 h2] at h
          simp only [List.length_cons] at hn
          obtain ⟨q2, p2, rfl, hi, hz2⟩ := ih r.length (by omega) r _ _ h rfl
          refine ⟨c :: q2, p2, rfl, by rw [hi]; simp; omega, fun z b => ?_⟩
          rw [List.cons_append, Q_byte _ _ _ _ h1 h2, hz2]
          simp; omega
theorem quoted_own (r : Str) (a : Nat) (t : Str) (i : Nat) (hr : r.head? = some 34) (h : quoted r a = .ok (t, i)) :
    ∃ q p, r = q ++ p ∧ i = a + q.length ∧ q.head? = some 34 ∧ ∀ z b, quoted (q ++ z) b = .ok (t, b + q.length) := by
  cases r with
  | nil => cases hr
  | cons c r =>
    rw [quoted_Q] at h
    obtain ⟨q, p, rfl, hi, hz⟩ := Q_own _ _ _ _ _ h
    refine ⟨c :: q, p, rfl, by rw [hi]; simp; omega, by simpa using hr, fun z b => ?_⟩
    rw [List.cons_append, quoted_Q, hz]
    simp; omega
/-- bytes of which no control character is but the tabulator. -/
def Cl (l : Str) : Prop := ∀ c ∈ l, 32 ≤ c.toNat ∨ c = 9
theorem ctl_clean {x z : Str} {i : Nat} (h : ctl (x ++ z) i = none) (h10 : (10 : UInt8) ∉ x) (hz : z.head? ≠ some 10 ∨ x.getLast? ≠ some 13) : Cl x := by
  induction x generalizing i with
  | nil => intro c hc; cases hc
  | cons d x ih =>
    rw [List.cons_append, ctl_cons] at h
    simp only [List.mem_cons, not_or] at h10
    split at h
    · cases h
    · rename_i hif
      intro c hc
      rcases List.mem_cons.1 hc with rfl | hc
      · by_cases h9 : c = 9
        · exact .inr h9
        · left
          by_cases h32 : c < 32
          · exfalso
            apply hif
            have hh : ¬ (c = 13 ∧ (x ++ z).head? = some 10) := by
              rintro ⟨rfl, h2⟩
              cases x with
              | nil =>
                rcases hz with hz | hz
                · exact hz h2
                · exact hz rfl
              | cons y x => simp at h2; exact h10.2 (by simp [h2])
            have h10' : ¬ c = 10 := fun e => h10.1 e.symm
            simp only [h32, h9, h10', decide_true, bne_iff_ne, ne_eq, not_false_eq_true, Bool.and_eq_true, Bool.not_eq_true', Bool.or_eq_false_iff, beq_eq_false_iff_ne, Bool.and_eq_false_iff, and_self, true_and]
            by_cases h13 : c = 13
            · right; simpa using fun e => hh ⟨h13, e⟩
            · left; exact h13
          · exact UInt8.not_lt.1 h32
      · refine ih h h10.2 ?_ c hc
        rcases hz with hz | hz
        · exact .inl hz
        · cases x with
          | nil => simp at hc
          | cons y x => right; simpa [List.getLast?_cons_cons] using hz
theorem cr_clean {l q : Str} {i : Nat} (h : ctl (l ++ 10 :: q) i = none) (h10 : (10 : UInt8) ∉ l) : Cl (cr l) := by
  rcases cr_parts l with ⟨h1, h2⟩ | h1
  · rw [← h1]; exact ctl_clean h h10 (.inr h2)
  · have h3 := h1
    rw [h3, List.append_assoc] at h
    refine ctl_clean h ?_ (.inl (by simp))
    intro hm; apply h10; rw [h1]; simp [hm]
theorem bad_cut {q z : Str} (h : bad (q ++ z) = none) (hz : z = [] ∨ ∃ c y, z = c :: y ∧ c.toNat < 128) : bad q = none := by
  rcases hz with rfl | ⟨c, y, rfl, hc⟩
  · simpa using h
  · rw [bad_app q y c hc] at h
    cases hb : bad q with
    | none => rfl
    | some x => rw [hb] at h; cases h
theorem bad_tail {p z : Str} {c : UInt8} (hc : c.toNat < 128) (h : bad (p ++ c :: z) = none) : bad z = none := by
  rw [bad_app p z c hc] at h
  cases hb : bad p with
  | some x => rw [hb] at h; cases h
  | none => rw [hb] at h; cases hz : bad z with
    | none => rfl
    | some x => rw [hz] at h; cases h
theorem bad_lead_drop {r : Str} (h : bad r = none) : bad (r.drop (nB r)) = none := by
  induction r with
  | nil => exact h
  | cons c r ih =>
    rw [nB_cons]
    split
    · rename_i hb
      have hc : c.toNat < 128 := by
        have : c = 32 ∨ c = 9 := by simpa [isB] using hb
        rcases this with rfl | rfl <;> decide
      rw [List.drop_succ_cons]
      rw [bad_cons c r hc] at h
      apply ih
      cases hz : bad r with
      | none => rfl
      | some x => rw [hz] at h; cases h
    · exact h
theorem lead_stop (r : Str) : nB (r.drop (nB r)) = 0 := by
  induction r with
  | nil => rfl
  | cons c r ih =>
    by_cases h : isB c
    · rw [nB_cons, if_pos h, List.drop_succ_cons]; exact ih
    · rw [nB_cons, if_neg h, List.drop_zero, nB_cons, if_neg h]
theorem nB_full {r : Str} (h : ¬ nB r < r.length) : ∀ c ∈ r, c = 32 ∨ c = 9 := by
  have := lead_all (r := r)
  rw [List.take_of_length_le (by omega)] at this
  exact this
/-- blanks at the end. -/
theorem nT_le (r : Str) : nT r ≤ r.length := by
  unfold nT
  have := (List.dropWhile_sublist (l := r.reverse) isB).length_le
  simpa using this
theorem nT_snoc (r : Str) (c : UInt8) : nT (r ++ [c]) = if isB c then nT r else r.length + 1 := by
  unfold nT
  rw [List.reverse_append, List.reverse_singleton, List.singleton_append, List.dropWhile_cons]
  split <;> simp
theorem nT_drop (r : Str) : ∀ c ∈ r.drop (nT r), c = 32 ∨ c = 9 := by
  generalize hn : r.length = n
  induction n generalizing r with
  | zero => intro c hc; rw [List.eq_nil_of_length_eq_zero hn] at hc; simp at hc
  | succ n ih =>
    have hne : r ≠ [] := by rintro rfl; simp at hn
    obtain ⟨q, d, rfl⟩ : ∃ q d, r = q ++ [d] := ⟨r.dropLast, r.getLast hne, (List.dropLast_concat_getLast hne).symm⟩
    rw [nT_snoc]
    split
    · rename_i hb
      intro c hc
      rw [List.drop_append_of_le_length (nT_le q)] at hc
      rcases List.mem_append.1 hc with hc | hc
      · exact ih q (by simp at hn; exact hn) c hc
      · simp at hc; subst hc; simpa [isB] using hb
    · intro c hc
      rw [List.drop_of_length_le (by simp)] at hc; simp at hc
theorem nT_take (r : Str) : nT (r.take (nT r)) = (r.take (nT r)).length := by
  generalize hn : r.length = n
  induction n generalizing r with
  | zero => rw [List.eq_nil_of_length_eq_zero hn]; rfl
  | succ n ih =>
    have hne : r ≠ [] := by rintro rfl; simp at hn
    obtain ⟨q, d, rfl⟩ : ∃ q d, r = q ++ [d] := ⟨r.dropLast, r.getLast hne, (List.dropLast_concat_getLast hne).symm⟩
    rw [nT_snoc]
    split
    · rw [List.take_append_of_le_length (nT_le q)]
      exact ih q (by simp at hn; exact hn)
    · rename_i hb
      rw [List.take_of_length_le (by simp), nT_snoc, if_neg hb]; simp
/-- what a value's span shows: its bytes, and the text that they stand for. -/
def VS (q t : Str) : Prop := bad q = none ∧ Cl q ∧ nB q = 0 ∧
  ((q.head? = some 34 ∧ ∀ z b, quoted (q ++ z) b = .ok (t, b + q.length)) ∨ (q.head? ≠ some 34 ∧ t = q ∧ nT q = q.length))
theorem nB_take {v : Str} (h : nB v = 0) (k : Nat) : nB (v.take k) = 0 := by
  cases v with
  | nil => simp [nB]
  | cons c v =>
    cases k with
    | zero => simp [nB]
    | succ k =>
      rw [nB_cons] at h
      rw [List.take_succ_cons, nB_cons]
      split
      · rename_i hb; rw [if_pos hb] at h; omega
      · rfl
theorem Cl.take {v : Str} (h : Cl v) (k : Nat) : Cl (v.take k) := fun c hc => h c (List.mem_of_mem_take hc)
theorem Cl.drop {v : Str} (h : Cl v) (k : Nat) : Cl (v.drop k) := fun c hc => h c (List.mem_of_mem_drop hc)
theorem blanks_end {p : Str} (h : ∀ c ∈ p, c = 32 ∨ c = 9) : p = [] ∨ ∃ c y, p = c :: y ∧ c.toNat < 128 := by
  cases p with
  | nil => exact .inl rfl
  | cons c y => exact .inr ⟨c, y, rfl, by rcases h c (by simp) with rfl | rfl <;> decide⟩
theorem value_vs {v t : Str} {b z : Nat} (h : value v b = .ok (t, z)) (hn : nB v = 0) (hb : bad v = none) (hc : Cl v) : b ≤ z ∧ z ≤ b + v.length ∧ VS (v.take (z - b)) t := by
  unfold value at h
  split at h
  · rename_i h0
    split at h
    · cases h
    · rename_i t' i he
      simp only at h
      split at h
      · cases h
      · rename_i hnb
        injection h with h; injection h with h1 h2; subst h1; subst h2
        obtain ⟨q, p, rfl, hi, hq, hz⟩ := quoted_own _ _ _ _ h0 he
        rw [hi, Nat.add_sub_cancel_left, List.drop_left] at hnb
        have e : i - b = q.length := by omega
        refine ⟨by omega, by simp; omega, ?_⟩
        rw [e, List.take_left]
        refine ⟨bad_cut hb (blanks_end (nB_full hnb)), ?_, ?_, .inl ⟨hq, hz⟩⟩
        · have := hc.take q.length; rwa [List.take_left] at this
        · have := nB_take hn q.length; rwa [List.take_left] at this
  · rename_i h0
    injection h with h; injection h with h1 h2; subst h1; subst h2
    have hle := nT_le v
    refine ⟨by omega, by omega, ?_⟩
    rw [Nat.add_sub_cancel_left]
    refine ⟨?_, hc.take _, nB_take hn _, .inr ⟨?_, rfl, nT_take v⟩⟩
    · have := List.take_append_drop (nT v) v
      rw [← this] at hb
      exact bad_cut hb (blanks_end (nT_drop v))
    · intro hh
      apply h0
      cases v with
      | nil => simp at hh
      | cons c v =>
        cases hk : nT (c :: v) with
        | zero => rw [hk] at hh; simp at hh
        | succ k => rw [hk] at hh; simpa using hh
/-- a name ends before its mark. -/
theorem name_mark {r : Str} {a : Nat} {m : UInt8} {t : Str} {e i : Nat} (h : name r a m = .ok (t, e, i)) : ∃ p q, r = p ++ m :: q ∧ i = a + p.length + 1 ∧ r.drop (i - a) = q := by
  have key : ∀ k, k < r.length → r[k]? = some m → i = a + k + 1 → ∃ p q, r = p ++ m :: q ∧ i = a + p.length + 1 ∧ r.drop (i - a) = q := by
    intro k hk hm hi
    have hd : r.drop k = m :: r.drop (k + 1) := by
      rw [List.drop_eq_getElem_cons hk]
      rw [List.getElem?_eq_getElem hk] at hm
      injection hm with hm
      rw [hm]
    refine ⟨r.take k, r.drop (k + 1), ?_, ?_, ?_⟩
    · rw [← hd, List.take_append_drop]
    · rw [List.length_take]; omega
    · rw [show i - a = k + 1 from by omega]
  unfold name at h
  split at h
  · rename_i h0
    split at h
    · cases h
    · rename_i t' i' he
      simp only at h
      have h1 := quoted_ok _ _ _ _ (head_ne h0) he
      split at h
      · rename_i h3
        injection h with h
        injection h with _ h
        injection h with _ h
        have h4 := head_len h3
        rw [List.length_drop, List.length_drop] at h4
        refine key (i' - a + nB (r.drop (i' - a))) (by omega) ?_ (by omega)
        rw [List.head?_drop, List.getElem?_drop] at h3
        exact h3
      · cases h
  · simp only at h
    split at h
    · cases h
    · split at h
      · cases h
      · rename_i h3
        injection h with h
        injection h with _ h
        injection h with _ h
        have h4 : (r.takeWhile (fun c => decide (c ≠ m))).length ≤ r.length := (List.takeWhile_sublist _).length_le
        have h5 : (r.takeWhile (fun c => decide (c ≠ m))).length < r.length := by omega
        refine key (r.takeWhile (fun c => decide (c ≠ m))).length h5 ?_ (by omega)
        obtain ⟨w, hw⟩ : ∃ w, r.dropWhile (fun c => decide (c ≠ m)) = w := ⟨_, rfl⟩
        have e := List.takeWhile_append_dropWhile (p := fun c => decide (c ≠ m)) (l := r)
        rw [hw] at e
        cases w with
        | nil => rw [List.append_nil] at e; rw [e] at h5; omega
        | cons c w =>
          have hc : ¬ (fun c => decide (c ≠ m)) c = true := by
            have := List.head?_dropWhile_not (p := fun c => decide (c ≠ m)) (l := r)
            rw [hw] at this
            simpa using this
          have hc : c = m := by simpa using hc
          have : r[(r.takeWhile (fun c => decide (c ≠ m))).length]? = (r.takeWhile (fun c => decide (c ≠ m)) ++ c :: w)[(r.takeWhile (fun c => decide (c ≠ m))).length]? := by rw [e]
          rw [this, List.getElem?_append_right (Nat.le_refl _), Nat.sub_self, List.getElem?_cons_zero, hc]
/-- what an entry leaves. -/
theorem entry_cases {st st' : St} {r : Str} {a : Nat} (h : entry st r a = .ok st') (hn : st.node < st.nodes.length) :
    ∃ key e i t z, name r a 61 = .ok (key, e, i) ∧ value ((r.drop (i - a)).drop (nB (r.drop (i - a)))) (i + nB (r.drop (i - a))) = .ok (t, z) ∧
      keyIn st.nodes st.node key = false ∧ st.nodes.length + 2 ≤ 4096 ∧
      st'.nodes = (st.nodes ++ [(⟨5, key, [], []⟩ : Nd), ⟨5, t, [], []⟩]).set st.node { st.nodes[st.node] with keys := st.nodes[st.node].keys ++ [st.nodes.length], items := st.nodes[st.node].items ++ [st.nodes.length + 1] } ∧
      st'.spans = (if st.span > 0 then setTo (st.spans ++ [⟨st.nodes.length + 1, st.span, st.nodes[st.node].items.length, i + nB (r.drop (i - a)), z, a, e, true⟩]) st.span z else st.spans ++ [⟨st.nodes.length + 1, st.span, st.nodes[st.node].items.length, i + nB (r.drop (i - a)), z, a, e, true⟩]) ∧
      st'.notes = st.notes ∧ st'.node = st.node ∧ st'.span = st.span := by
  unfold entry at h
  simp only at h
  split at h
  · cases h
  · rename_i key e i hname
    split at h
    · cases h
    · rename_i t z hv
      rcases add_cases st st.node st.span key ⟨5, t, [], []⟩ ⟨0, 0, 0, i + nB (r.drop (i - a)), z, a, e, true⟩ hn with h1 | h1 | ⟨hm, hk, h1⟩
      · rw [h1] at h; cases h
      · rw [h1] at h; cases h
      · rw [h1] at h
        simp only at h
        refine ⟨key, e, i, t, z, hname, hv, hk, hm, ?_⟩
        split at h
        · rename_i hs
          injection h with h; subst h
          rw [if_pos hs]
          exact ⟨rfl, rfl, rfl, rfl, rfl⟩
        · rename_i hs
          injection h with h; subst h
          rw [if_neg hs]
          exact ⟨rfl, rfl, rfl, rfl, rfl⟩
/-- what a section's line leaves. -/
theorem header_cases {st st' : St} {r : Str} {a : Nat} (h : header st r a = .ok st') (hn : 0 < st.nodes.length) :
    ∃ t e i, name ((r.drop 1).drop (nB (r.drop 1))) (a + 1 + nB (r.drop 1)) 93 = .ok (t, e, i) ∧ ¬ nB (r.drop (i - a)) < (r.drop (i - a)).length ∧
      keyIn st.nodes 0 t = false ∧ st.nodes.length + 2 ≤ 4096 ∧
      st'.nodes = (st.nodes ++ [(⟨5, t, [], []⟩ : Nd), ⟨10, [], [], []⟩]).set 0 { st.nodes[0] with keys := st.nodes[0].keys ++ [st.nodes.length], items := st.nodes[0].items ++ [st.nodes.length + 1] } ∧
      st'.spans = st.spans ++ [⟨st.nodes.length + 1, 0, st.nodes[0].items.length, a, i, a + 1 + nB (r.drop 1), e, false⟩] ∧
      st'.notes = st.notes ∧ st'.node = st.nodes.length + 1 ∧ st'.span = st.spans.length := by
  unfold header at h
  simp only at h
  split at h
  · cases h
  · rename_i t e i hname
    split at h
    · cases h
    · rename_i hb
      rcases add_cases st 0 0 t ⟨10, [], [], []⟩ ⟨0, 0, 0, a, i, a + 1 + nB (r.drop 1), e, false⟩ hn with h1 | h1 | ⟨hm, hk, h1⟩
      · rw [h1] at h; cases h
      · rw [h1] at h; cases h
      · rw [h1] at h
        injection h with h
        subst h
        exact ⟨t, e, i, hname, hb, hk, hm, rfl, rfl, rfl, by simp, by simp⟩
/-- the texts of nodes stay. -/
theorem text_stays {l x : List Nd} {k j : Nat} {m nd : Nd} (hk : k < l.length) (hm : m.text = (l[k]).text) (h : l[j]? = some nd) : ∃ nd', ((l ++ x).set k m)[j]? = some nd' ∧ nd'.text = nd.text := by
  have hj : j < l.length := (List.getElem?_eq_some_iff.1 h).1
  have hjl : (l ++ x)[j]? = some nd := by rw [List.getElem?_append_left hj]; exact h
  by_cases e : k = j
  · subst e
    refine ⟨m, by rw [List.getElem?_set_self (by simp; omega)], ?_⟩
    rw [hm]
    rw [List.getElem?_eq_getElem hj] at h
    injection h with h; rw [h]
  · exact ⟨nd, by rw [List.getElem?_set_ne e]; exact hjl, rfl⟩
/-- the values' spans of a state. -/
structure VSt (src : Str) (st : St) : Prop where
  good : Good st
  span : st.span < st.spans.length
  open_ : ∀ y, st.spans[st.span]? = some y → y.whole = false
  all : ∀ x ∈ st.spans, x.whole = true → x.from_ ≤ x.to_ ∧ x.to_ ≤ src.length ∧ ∃ nd, st.nodes[x.node]? = some nd ∧ VS (sgm src x.from_ x.to_) nd.text
theorem VSt.start (src : Str) (n : Nat) : VSt src (start n) := by
  refine ⟨start_good n, by simp [Ini.start], ?_, ?_⟩
  · intro y hy; simp [Ini.start] at hy; rw [← hy]
  · intro x hx; simp [Ini.start] at hx; rw [hx]; intro h; cases h
theorem VSt.line {src : Str} {st st' : St} {r : Str} {a : Nat} (H : VSt src st) (h : line st r a = .ok st') (hr : ∃ w, src.drop a = r ++ w) (hb : bad r = none) (hc : Cl r) : VSt src st' := by
  have hgood := line_good h H.good
  obtain ⟨w, hw⟩ := hr
  unfold Ini.line at h
  simp only at h
  split at h
  · injection h with h; subst h; exact H
  · rename_i c y hq
    have hq2 : src.drop (a + nB r) = (c :: y) ++ w := by
      rw [← List.drop_drop, hw, List.drop_append_of_le_length (nB_len r), hq]
    have hb2 : bad (c :: y) = none := by rw [← hq]; exact bad_lead_drop hb
    have hc2 : Cl (c :: y) := by rw [← hq]; exact hc.drop _
    split at h
    · injection h with h; subst h
      exact ⟨hgood, H.span, H.open_, H.all⟩
    · split at h
      · obtain ⟨t, e, i, h1, h2, h3, h4, h5, h6, h7, h8, h9⟩ := header_cases h H.good.1
        refine ⟨hgood, by rw [h6, h9]; simp, ?_, ?_⟩
        · intro y hy
          rw [h6, h9] at hy
          simp at hy
          rw [← hy]
        · intro x hx hxw
          rw [h6] at hx
          rcases List.mem_append.1 hx with hx | hx
          · obtain ⟨i1, i2, nd, i3, i4⟩ := H.all x hx hxw
            refine ⟨i1, i2, ?_⟩
            rw [h5]
            obtain ⟨nd', j1, j2⟩ := text_stays (x := [⟨5, t, [], []⟩, ⟨10, [], [], []⟩]) (m := { st.nodes[0]'H.good.1 with keys := (st.nodes[0]'H.good.1).keys ++ [st.nodes.length], items := (st.nodes[0]'H.good.1).items ++ [st.nodes.length + 1] }) H.good.1 rfl i3
            exact ⟨nd', j1, by rw [j2]; exact i4⟩
          · simp at hx; rw [hx] at hxw; cases hxw
      · obtain ⟨key, e, i, t, z, h1, h2, h3, h4, h5, h6, h7, h8, h9⟩ := entry_cases h H.good.2
        obtain ⟨p, q, hpq, hi, hdq⟩ := name_mark h1
        rw [hdq] at h2 h6
        rw [hq] at hpq
        have hbq : bad q = none := by rw [hpq] at hb2; exact bad_tail (by decide) hb2
        have hcq : Cl q := by
          intro d hd; apply hc2; rw [hpq]; simp [hd]
        obtain ⟨k1, k2, k3⟩ := value_vs h2 (lead_stop q) (bad_lead_drop hbq) (hcq.drop _)
        have hv : src.drop (i + nB q) = q.drop (nB q) ++ w := by
          have e1 : src.drop i = q ++ w := by
            rw [show i = a + nB r + (p ++ [61]).length from by rw [hi]; simp; omega, ← List.drop_drop, hq2, hpq]
            simp
          rw [← List.drop_drop, e1, List.drop_append_of_le_length (nB_len q)]
        have hqd : (q.drop (nB q)).length = q.length - nB q := List.length_drop
        have hlen := congrArg List.length hv
        rw [List.length_drop, List.length_append] at hlen
        have hilt : i + nB q ≤ src.length := by
          have e1 := congrArg List.length hq2
          rw [List.length_drop, hpq] at e1
          simp only [List.length_append, List.length_cons] at e1
          have := nB_len q
          omega
        have hsg : sgm src (i + nB q) z = (q.drop (nB q)).take (z - (i + nB q)) := by
          unfold sgm
          rw [List.drop_take, hv, List.take_append_of_le_length (by omega)]
        have hall : ∀ x ∈ st.spans ++ [⟨st.nodes.length + 1, st.span, (st.nodes[st.node]'H.good.2).items.length, i + nB q, z, a + nB r, e, true⟩], x.whole = true → x.from_ ≤ x.to_ ∧ x.to_ ≤ src.length ∧ ∃ nd, st'.nodes[x.node]? = some nd ∧ VS (sgm src x.from_ x.to_) nd.text := by
          intro x hx hxw
          rcases List.mem_append.1 hx with hx | hx
          · obtain ⟨i1, i2, nd, i3, i4⟩ := H.all x hx hxw
            refine ⟨i1, i2, ?_⟩
            rw [h5]
            obtain ⟨nd', j1, j2⟩ := text_stays (x := [⟨5, key, [], []⟩, ⟨5, t, [], []⟩]) (m := { st.nodes[st.node]'H.good.2 with keys := (st.nodes[st.node]'H.good.2).keys ++ [st.nodes.length], items := (st.nodes[st.node]'H.good.2).items ++ [st.nodes.length + 1] }) H.good.2 rfl i3
            exact ⟨nd', j1, by rw [j2]; exact i4⟩
          · simp only [List.mem_singleton] at hx
            subst hx
            have hg := H.good.2
            refine ⟨k1, (by show z ≤ src.length; have := nB_len q; omega), ⟨5, t, [], []⟩, ?_, ?_⟩
            · show st'.nodes[st.nodes.length + 1]? = _
              rw [h5, List.getElem?_set_ne (by omega), List.getElem?_append_right (by omega)]
              simp
            · show VS (sgm src (i + nB q) z) t
              rw [hsg]; exact k3
        by_cases hs : st.span > 0
        · rw [if_pos hs] at h6
          have hsp := H.span
          have hget : (st.spans ++ [(⟨st.nodes.length + 1, st.span, (st.nodes[st.node]'H.good.2).items.length, i + nB q, z, a + nB r, e, true⟩ : Sp)])[st.span]? = some (st.spans[st.span]) := by
            rw [List.getElem?_append_left hsp, List.getElem?_eq_getElem hsp]
          have hop := H.open_ _ (List.getElem?_eq_getElem hsp)
          have h6' : st'.spans = (st.spans ++ [(⟨st.nodes.length + 1, st.span, (st.nodes[st.node]'H.good.2).items.length, i + nB q, z, a + nB r, e, true⟩ : Sp)]).set st.span { st.spans[st.span] with to_ := z } := by
            rw [h6]; unfold setTo; rw [hget]
          refine ⟨hgood, by rw [h9, h6', List.length_set, List.length_append]; omega, ?_, ?_⟩
          · intro y hy
            rw [h6', h9, List.getElem?_set_self (by simp; omega)] at hy
            injection hy with hy
            rw [← hy]; exact hop
          · intro x hx hxw
            rw [h6'] at hx
            rcases List.mem_or_eq_of_mem_set hx with hx | hx
            · exact hall x hx hxw
            · rw [hx] at hxw
              simp only [hop] at hxw; cases hxw
        · rw [if_neg hs] at h6
          refine ⟨hgood, by rw [h9, h6, List.length_append]; have := H.span; omega, ?_, ?_⟩
          · intro y hy
            rw [h6, h9, List.getElem?_append_left H.span] at hy
            exact H.open_ y hy
          · intro x hx hxw
            rw [h6] at hx
            exact hall x hx hxw
theorem VSt.run {src : Str} {st st' : St} {r : Str} {a : Nat} (H : VSt src st) (h : run st r a = .ok st') (hr : src.drop a = r) (ha : a ≤ src.length) (hb : bad r = none) (hc : ctl r 0 = none) : VSt src st' := by
  generalize hn : r.length = n
  induction n using Nat.strongRecOn generalizing st r a with
  | ind n ih =>
    rcases split_cases r with h1 | ⟨l, q, rfl, h1⟩
    · rw [run_last _ _ _ h1] at h
      exact H.line h ⟨[], by rw [hr]; simp⟩ hb (ctl_clean (z := []) (by rw [List.append_nil]; exact hc) h1 (.inl (by simp)))
    · rw [run_line _ _ _ _ h1] at h
      cases hl : Ini.line st (cr l) a with
      | err x e => rw [hl] at h; cases h
      | ok s1 =>
        rw [hl] at h
        simp only [List.length_append, List.length_cons] at hn
        have hbl : bad l = none := bad_cut hb (.inr ⟨10, q, rfl, by decide⟩)
        have hcl := cr_clean hc h1
        have hlen := congrArg List.length hr
        simp only [List.length_drop, List.length_append, List.length_cons] at hlen
        have H1 : VSt src s1 := by
          rcases cr_parts l with ⟨e1, _⟩ | e1
          · exact H.line hl ⟨10 :: q, by rw [hr, ← e1]⟩ (by rw [← e1]; exact hbl) hcl
          · refine H.line hl ⟨13 :: 10 :: q, ?_⟩ ?_ hcl
            · rw [hr]; conv => lhs; rw [e1]
              simp
            · rw [e1] at hbl
              exact bad_cut hbl (.inr ⟨13, [], rfl, by decide⟩)
        refine ih q.length (by omega) H1 h ?_ (by omega) (bad_tail (by decide) hb) ?_ rfl
        · rw [show a + l.length + 1 = a + (l ++ [10]).length from by simp; omega, ← List.drop_drop, hr]
          simp
        · exact ((ctl_part l q 0).1 hc).2
/-- every span of a value shows its text. -/
theorem parse_spans {src : Str} {st : St} (hl : src.length ≤ 65536) (h : parse src = .ok st) : VSt src st := by
  rw [parse_eq src hl] at h
  cases hb : bad src with
  | some x => rw [hb] at h; cases h
  | none =>
    rw [hb] at h
    simp only at h
    cases hc : ctl src 0 with
    | some x => rw [hc] at h; cases h
    | none =>
      rw [hc] at h
      exact (VSt.start src src.length).run h rfl (by omega) hb hc
end Ini
end Go.Proofs.YtegdemnfjmaicaaDoor
namespace Go.Proofs.YtegdemnfjmaicaaDoor
namespace Ini
theorem ctl_of_clean {l : Str} (h : Cl l) (i : Nat) : ctl l i = none := by
  induction l generalizing i with
  | nil => rfl
  | cons c l ih =>
    rw [ctl_cons, if_neg]
    · exact ih (fun d hd => h d (by simp [hd])) _
    · intro hif
      simp only [Bool.and_eq_true, decide_eq_true_eq, bne_iff_ne, ne_eq] at hif
      rcases h c (by simp) with h1 | h1
      · exact absurd (UInt8.lt_iff_toNat_lt.1 hif.1.1) (by simp; omega)
      · exact hif.1.2 h1
theorem Cl.no10 {l : Str} (h : Cl l) : (10 : UInt8) ∉ l := by
  intro hm
  rcases h 10 hm with h1 | h1
  · simp at h1
  · cases h1
def again (q : Str) : Str := 107 :: 9 :: 61 :: 32 :: 32 :: (q ++ [32])
theorem value_again {q t : Str} (hv : VS q t) (b : Nat) : ∃ z, value ((q ++ [32]).drop (nB (q ++ [32]))) b = .ok (t, z) := by
  obtain ⟨hb, hc, hn, hq⟩ := hv
  cases q with
  | nil =>
    rcases hq with ⟨h1, _⟩ | ⟨_, h1, _⟩
    · cases h1
    · subst h1; exact ⟨_, rfl⟩
  | cons c q =>
    have hcb : isB c = false := by
      rw [nB_cons] at hn
      split at hn
      · omega
      · rename_i h; simpa using h
    have h0 : nB (c :: q ++ [32]) = 0 := by rw [List.cons_append, nB_cons, hcb]; rfl
    rw [h0, List.drop_zero]
    rcases hq with ⟨h1, h2⟩ | ⟨h1, h2, h3⟩
    · refine ⟨b + (c :: q).length, ?_⟩
      unfold value
      rw [if_pos (by simpa using h1), h2]
      simp only
      rw [Nat.add_sub_cancel_left, List.drop_left]
      rw [if_neg (by decide)]
    · refine ⟨b + (c :: q).length, ?_⟩
      unfold value
      rw [if_neg (by simpa using h1), nT_snoc, if_pos (by decide), h3, List.take_left, h2]
theorem parse_again {q t : Str} (hv : VS q t) (hl : q.length ≤ 1000) : ∃ st, parse (again q) = .ok st ∧ st.nodes = [⟨10, [], [1], [2]⟩, ⟨5, [107], [], []⟩, ⟨5, t, [], []⟩] := by
  have hcl : Cl (again q) := by
    intro c hc
    simp only [again, List.mem_cons, List.mem_append, List.not_mem_nil, or_false] at hc
    rcases hc with rfl | rfl | rfl | rfl | rfl | hc | rfl
    · left; decide
    · right; rfl
    · left; decide
    · left; decide
    · left; decide
    · exact hv.2.1 c hc
    · left; decide
  have hbad : bad (again q) = none := by
    unfold again
    rw [bad_cons _ _ (by decide), bad_cons _ _ (by decide), bad_cons _ _ (by decide), bad_cons _ _ (by decide), bad_cons _ _ (by decide), bad_app q [] 32 (by decide), hv.1]
    rfl
  rw [parse_eq _ (by simp [again]; omega), hbad, ctl_of_clean hcl]
  simp only
  rw [run_last _ _ _ hcl.no10]
  have hname : name (again q) 0 61 = .ok ([107], 1, 3) := by
    unfold again name
    rw [if_neg (by simp)]
    have e : (107 :: 9 :: 61 :: 32 :: 32 :: (q ++ [32])).takeWhile (fun c => decide (c ≠ 61)) = [107, 9] := by
      simp
    rw [e]
    have e2 : nT [107, 9] = 1 := by decide
    simp only [e2]
    rw [if_neg (by decide), if_neg (by simp)]
    rfl
  obtain ⟨z, hz⟩ := value_again hv (3 + nB (32 :: 32 :: (q ++ [32])))
  have hd : ((again q).drop 3) = 32 :: 32 :: (q ++ [32]) := rfl
  have hnb : nB (32 :: 32 :: (q ++ [32])) = nB (q ++ [32]) + 1 + 1 := by
    rw [nB_cons, if_pos (by decide), nB_cons, if_pos (by decide)]
  unfold line
  have h0 : nB (again q) = 0 := by unfold again; rw [nB_cons]; rfl
  rw [h0, List.drop_zero]
  simp only
  unfold again
  simp only
  rw [if_neg (by decide), if_neg (by decide)]
  change ∃ st, entry (start (again q).length) (again q) 0 = .ok st ∧ _
  unfold entry
  rw [hname]
  simp only [Nat.sub_zero]
  have hdrop : ((again q).drop 3).drop (nB ((again q).drop 3)) = (q ++ [32]).drop (nB (q ++ [32])) := by
    rw [hd, hnb, List.drop_succ_cons, List.drop_succ_cons]
  rw [hdrop, show nB ((again q).drop 3) = nB (32 :: 32 :: (q ++ [32])) from by rw [hd], hz]
  exact ⟨_, rfl, rfl⟩
/-- THE PLAIN LAW of IniSpans. -/
theorem spans_law {src : Str} {st : St} (hl : src.length ≤ 500) (h : parse src = .ok st) (x : Sp) (hx : x ∈ st.spans) (hw : x.whole = true) :
    x.from_ ≤ x.to_ ∧ x.to_ ≤ src.length ∧ ∃ nd, st.nodes[x.node]? = some nd ∧ (∃ st2, parse (again (sgm src x.from_ x.to_)) = .ok st2 ∧ st2.nodes = [⟨10, [], [1], [2]⟩, ⟨5, [107], [], []⟩, ⟨5, nd.text, [], []⟩]) ∧
      ((sgm src x.from_ x.to_).head? = some 34 ∨ sgm src x.from_ x.to_ = nd.text) := by
  obtain ⟨h1, h2, nd, h3, h4⟩ := (parse_spans (by omega) h).all x hx hw
  refine ⟨h1, h2, nd, h3, parse_again h4 (by unfold sgm; rw [List.length_drop, List.length_take]; omega), ?_⟩
  rcases h4.2.2.2 with h5 | h5
  · exact .inl h5.1
  · exact .inr h5.2.1.symm
theorem spans_pos {src : Str} {st : St} (hl : src.length ≤ 500) (h : parse src = .ok st) : 0 < st.spans.length := by
  have := (parse_spans (by omega) h).span
  omega
end Ini
end Go.Proofs.YtegdemnfjmaicaaDoor
namespace Go.Proofs.YtegdemnfjmaicaaDoor
namespace Ini
/-- the nodes of entries. -/
def eNodes : List (Str × Str) → List Nd
  | [] => []
  | e :: L => ⟨5, e.1, [], []⟩ :: ⟨5, e.2, [], []⟩ :: eNodes L
def kys (p n : Nat) : List Nat := (List.range n).map (fun i => p + 1 + 2 * i)
def its (p n : Nat) : List Nat := (List.range n).map (fun i => p + 2 + 2 * i)
/-- a state whose open map, behind the nodes P, is the last one, and has these entries. -/
structure Flat (P : List Nd) (L : List (Str × Str)) (st : St) : Prop where
  nodes : st.nodes = P ++ ⟨10, [], kys P.length L.length, its P.length L.length⟩ :: eNodes L
  node : st.node = P.length
theorem eNodes_len (L : List (Str × Str)) : (eNodes L).length = 2 * L.length := by
  induction L with
  | nil => rfl
  | cons e L ih => simp [eNodes, ih]; omega
theorem eNodes_snoc (L : List (Str × Str)) (e : Str × Str) : eNodes (L ++ [e]) = eNodes L ++ [⟨5, e.1, [], []⟩, ⟨5, e.2, [], []⟩] := by
  induction L with
  | nil => rfl
  | cons f L ih => simp [eNodes, ih]
theorem eNodes_get (L : List (Str × Str)) (i : Nat) (h : i < L.length) : (eNodes L)[2 * i]? = some ⟨5, L[i].1, [], []⟩ ∧ (eNodes L)[2 * i + 1]? = some ⟨5, L[i].2, [], []⟩ := by
  induction L generalizing i with
  | nil => simp at h
  | cons e L ih =>
    cases i with
    | zero => exact ⟨rfl, rfl⟩
    | succ i =>
      simp only [List.length_cons] at h
      have := ih i (by omega)
      exact this
theorem kys_snoc (p n : Nat) : kys p (n + 1) = kys p n ++ [p + 1 + 2 * n] := by simp [kys, List.range_succ]
theorem its_snoc (p n : Nat) : its p (n + 1) = its p n ++ [p + 2 + 2 * n] := by simp [its, List.range_succ]
section
variable {P : List Nd} {L : List (Str × Str)} {st st' : St}
theorem Flat.len (h : Flat P L st) : st.nodes.length = P.length + 1 + 2 * L.length := by rw [h.nodes, List.length_append, List.length_cons, eNodes_len]; omega
theorem Flat.lt (h : Flat P L st) : st.node < st.nodes.length := by rw [h.len, h.node]; omega
theorem Flat.map (h : Flat P L st) : st.nodes[P.length]? = some ⟨10, [], kys P.length L.length, its P.length L.length⟩ := by rw [h.nodes]; simp
theorem Flat.get (h : Flat P L st) (i : Nat) (hi : i < L.length) : st.nodes[P.length + 1 + 2 * i]? = some ⟨5, L[i].1, [], []⟩ ∧ st.nodes[P.length + 2 + 2 * i]? = some ⟨5, L[i].2, [], []⟩ := by
  rw [h.nodes, List.getElem?_append_right (by omega), List.getElem?_append_right (by omega)]
  rw [show P.length + 1 + 2 * i - P.length = 2 * i + 1 from by omega, show P.length + 2 + 2 * i - P.length = 2 * i + 1 + 1 from by omega, List.getElem?_cons_succ, List.getElem?_cons_succ]
  exact eNodes_get L i hi
theorem Flat.keyIn (h : Flat P L st) (key : Str) : keyIn st.nodes P.length key = decide (key ∈ L.map (·.1)) := by
  unfold Ini.keyIn
  rw [h.map]
  simp only
  rw [Bool.eq_iff_iff, List.any_eq_true, decide_eq_true_eq]
  constructor
  · rintro ⟨k, hk, he⟩
    simp only [kys, List.mem_map, List.mem_range] at hk
    obtain ⟨i, hi, rfl⟩ := hk
    unfold textAt at he
    rw [(h.get i hi).1] at he
    simp only [Option.map_some, beq_iff_eq, Option.some.injEq] at he
    exact List.mem_map.2 ⟨L[i], List.getElem_mem hi, he⟩
  · intro hm
    obtain ⟨e, he, hek⟩ := List.mem_map.1 hm
    obtain ⟨i, hi, rfl⟩ := List.mem_iff_getElem.1 he
    refine ⟨P.length + 1 + 2 * i, List.mem_map.2 ⟨i, List.mem_range.2 hi, rfl⟩, ?_⟩
    unfold textAt
    rw [(h.get i hi).1]
    simp only [Option.map_some, beq_iff_eq, Option.some.injEq]
    exact hek
/-- one more entry. -/
theorem Flat.add (h : Flat P L st) (key t : Str) (nodes' : List Nd)
    (hn : nodes' = (st.nodes ++ [(⟨5, key, [], []⟩ : Nd), ⟨5, t, [], []⟩]).set st.node { st.nodes[st.node]'h.lt with keys := (st.nodes[st.node]'h.lt).keys ++ [st.nodes.length], items := (st.nodes[st.node]'h.lt).items ++ [st.nodes.length + 1] })
    (h1 : st'.nodes = nodes') (h2 : st'.node = st.node) : Flat P (L ++ [(key, t)]) st' := by
  refine ⟨?_, by rw [h2, h.node]⟩
  have hm : st.nodes[st.node]'h.lt = ⟨10, [], kys P.length L.length, its P.length L.length⟩ := by
    have h3 : st.nodes[st.node]? = some ⟨10, [], kys P.length L.length, its P.length L.length⟩ := by rw [h.node]; exact h.map
    rw [List.getElem?_eq_getElem h.lt] at h3
    injection h3
  rw [h1, hn, hm, h.node, h.len, h.nodes]
  simp only [List.length_append, List.length_cons, List.length_nil]
  rw [show L.length + (0 + 1) = L.length + 1 from rfl, kys_snoc, its_snoc, eNodes_snoc, List.append_assoc, List.cons_append, List.set_append_right _ _ (Nat.le_refl _), Nat.sub_self, List.set_cons_zero]
  rw [show P.length + 1 + 2 * L.length + 1 = P.length + 2 + 2 * L.length from by omega]
end
/-- where the keys of the spans stand. -/
def kfs (st : St) : List Nat := st.spans.map (·.keyFrom)
theorem kfs_setTo (l : List Sp) (k z : Nat) : (setTo l k z).map (·.keyFrom) = l.map (·.keyFrom) := by
  unfold setTo
  split
  · rename_i s hs
    apply List.ext_getElem?
    intro i
    rw [List.getElem?_map, List.getElem?_map]
    by_cases e : k = i
    · subst e
      have hk := (List.getElem?_eq_some_iff.1 hs).1
      rw [List.getElem?_set_self hk, hs]; rfl
    · rw [List.getElem?_set_ne e]
  · rfl
/-- an entry in a flat state. -/
theorem entry_flat {P : List Nd} {L : List (Str × Str)} {st st' : St} {r : Str} {a : Nat} (hF : Flat P L st) (h : entry st r a = .ok st') :
    ∃ key t, key ∉ L.map (·.1) ∧ Flat P (L ++ [(key, t)]) st' ∧ kfs st' = kfs st ++ [a] ∧ st'.span = st.span ∧
      ∀ P2 L2 st2 d, Flat P2 L2 st2 → P2.length + 2 * L2.length + 3 ≤ 4096 →
        (key ∈ L2.map (·.1) → entry st2 r (a + d) = .err (a + d) 8) ∧
        (key ∉ L2.map (·.1) → ∃ st2', entry st2 r (a + d) = .ok st2' ∧ Flat P2 (L2 ++ [(key, t)]) st2' ∧ kfs st2' = kfs st2 ++ [a + d] ∧ st2'.span = st2.span) := by
  obtain ⟨key, e, i, t, z, h1, h2, h3, h4, h5, h6, h7, h8, h9⟩ := entry_cases h hF.lt
  refine ⟨key, t, ?_, hF.add key t _ rfl h5 h8, ?_, h9, ?_⟩
  · rw [hF.node, hF.keyIn] at h3
    simpa using h3
  · unfold kfs
    rw [h6]
    split
    · rw [kfs_setTo]; simp
    · simp
  · intro P2 L2 st2 d hF2 hm
    have e1 : name r (a + d) 61 = .ok (key, e + d, i + d) := by rw [name_shift, h1]
    have hb : i + d + nB (r.drop (i - a)) = i + nB (r.drop (i - a)) + d := by omega
    have e2 : value ((r.drop (i - a)).drop (nB (r.drop (i - a)))) (i + d + nB (r.drop (i - a))) = .ok (t, z + d) := by rw [hb, value_shift, h2]
    have hent : entry st2 r (a + d) = (match Ini.add st2 st2.node st2.span key ⟨5, t, [], []⟩ ⟨0, 0, 0, i + d + nB (r.drop (i - a)), z + d, a + d, e + d, true⟩ with
        | .err x e => .err x e
        | .ok st' => if st2.span > 0 then .ok { st' with spans := setTo st'.spans st2.span (z + d) } else .ok st') := by
      unfold entry
      rw [e1]
      simp only [Nat.add_sub_add_right]
      rw [e2]
      rfl
    have hk := hF2.keyIn key
    rw [← hF2.node] at hk
    constructor
    · intro hin
      rw [hent]
      rw [show decide (key ∈ L2.map (·.1)) = true from decide_eq_true hin] at hk
      unfold Ini.add
      rw [if_pos hk]
    · intro hin
      rw [show decide (key ∈ L2.map (·.1)) = false from decide_eq_false hin] at hk
      rcases add_cases st2 st2.node st2.span key ⟨5, t, [], []⟩ ⟨0, 0, 0, i + d + nB (r.drop (i - a)), z + d, a + d, e + d, true⟩ hF2.lt with g | g | ⟨_, _, g⟩
      · unfold Ini.add at g
        rw [if_neg (by rw [hk]; simp)] at g
        split at g
        · cases g
        · rw [List.getElem?_eq_getElem hF2.lt] at g; cases g
      · unfold Ini.add at g
        rw [if_neg (by rw [hk]; simp), if_neg (by rw [hF2.len]; omega), List.getElem?_eq_getElem hF2.lt] at g
        cases g
      · rw [hent, g]
        simp only
        by_cases hs : st2.span > 0
        · rw [if_pos hs]
          exact ⟨_, rfl, hF2.add key t _ rfl rfl rfl, by unfold kfs; simp only [kfs_setTo]; simp, rfl⟩
        · rw [if_neg hs]
          exact ⟨_, rfl, hF2.add key t _ rfl rfl rfl, by unfold kfs; simp, rfl⟩
/-- no section. -/
def NoSec (st : St) : Prop := ∀ j nd, st.nodes[j + 1]? = some nd → nd.kind ≠ 10
theorem kind_stays {l x : List Nd} {k j : Nat} {m nd : Nd} (hk : k < l.length) (hm : m.kind = (l[k]).kind) (h : l[j]? = some nd) : ∃ nd', ((l ++ x).set k m)[j]? = some nd' ∧ nd'.kind = nd.kind := by
  have hj : j < l.length := (List.getElem?_eq_some_iff.1 h).1
  have hjl : (l ++ x)[j]? = some nd := by rw [List.getElem?_append_left hj]; exact h
  by_cases e : k = j
  · subst e
    refine ⟨m, by rw [List.getElem?_set_self (by simp; omega)], ?_⟩
    rw [hm]
    rw [List.getElem?_eq_getElem hj] at h
    injection h with h; rw [h]
  · exact ⟨nd, by rw [List.getElem?_set_ne e]; exact hjl, rfl⟩
theorem line_kinds {st st' : St} {r : Str} {a : Nat} (hg : Good st) (h : line st r a = .ok st') {j : Nat} {nd : Nd} (hj : st.nodes[j]? = some nd) : ∃ nd', st'.nodes[j]? = some nd' ∧ nd'.kind = nd.kind := by
  unfold line at h
  simp only at h
  split at h
  · injection h with h; subst h; exact ⟨nd, hj, rfl⟩
  · split at h
    · injection h with h; subst h; exact ⟨nd, hj, rfl⟩
    · split at h
      · obtain ⟨t, e, i, h1, h2, h3, h4, h5, _⟩ := header_cases h hg.1
        rw [h5]; exact kind_stays hg.1 rfl hj
      · obtain ⟨key, e, i, t, z, h1, h2, h3, h4, h5, _⟩ := entry_cases h hg.2
        rw [h5]; exact kind_stays hg.2 rfl hj
theorem run_kinds {st st' : St} {r : Str} {a : Nat} (hg : Good st) (h : run st r a = .ok st') {j : Nat} {nd : Nd} (hj : st.nodes[j]? = some nd) : ∃ nd', st'.nodes[j]? = some nd' ∧ nd'.kind = nd.kind := by
  generalize hn : r.length = n
  induction n using Nat.strongRecOn generalizing st r a nd with
  | ind n ih =>
    rcases split_cases r with h1 | ⟨l, q, rfl, h1⟩
    · rw [run_last _ _ _ h1] at h
      exact line_kinds hg h hj
    · rw [run_line _ _ _ _ h1] at h
      cases hl : Ini.line st (cr l) a with
      | err x e => rw [hl] at h; cases h
      | ok s1 =>
        rw [hl] at h
        simp only [List.length_append, List.length_cons] at hn
        obtain ⟨nd1, k1, k2⟩ := line_kinds hg hl hj
        obtain ⟨nd2, k3, k4⟩ := ih q.length (by omega) (line_good hl hg) h k1 rfl
        exact ⟨nd2, k3, k4.trans k2⟩
theorem header_kind {st st' : St} {r : Str} {a : Nat} (h : header st r a = .ok st') (hn : 0 < st.nodes.length) : ∃ j nd, st'.nodes[j + 1]? = some nd ∧ nd.kind = 10 := by
  obtain ⟨t, e, i, h1, h2, h3, h4, h5, _⟩ := header_cases h hn
  refine ⟨st.nodes.length, ⟨10, [], [], []⟩, ?_, rfl⟩
  rw [h5, List.getElem?_set_ne (by omega), List.getElem?_append_right (by omega)]
  simp
/-- what a line without section does, here and elsewhere. -/
theorem line_flat {L : List (Str × Str)} {st st' : St} {r : Str} {a : Nat} (hF : Flat [] L st) (h : line st r a = .ok st') (hns : NoSec st') :
    ∃ L2 K2, L2.length = K2.length ∧ L2.length ≤ 1 ∧ L2.length ≤ r.length ∧ (∀ e ∈ L2, e.1 ∉ L.map (·.1)) ∧ Flat [] (L ++ L2) st' ∧ kfs st' = kfs st ++ K2 ∧ st'.span = st.span ∧
      ∀ Lx stx d, Flat [] Lx stx → 2 * (Lx.length + L2.length) + 3 ≤ 4096 →
        ((∀ e ∈ L2, e.1 ∉ Lx.map (·.1)) → ∃ stx', line stx r (a + d) = .ok stx' ∧ Flat [] (Lx ++ L2) stx' ∧ kfs stx' = kfs stx ++ K2.map (· + d) ∧ stx'.span = stx.span) ∧
        (∀ i (h1 : i < L2.length) (h2 : i < K2.length), L2[i].1 ∈ Lx.map (·.1) → (∀ j (h3 : j < L2.length), j < i → L2[j].1 ∉ Lx.map (·.1)) → line stx r (a + d) = .err (K2[i] + d) 8) := by
  unfold line at h
  simp only at h
  split at h
  · rename_i hq
    injection h with h; subst h
    refine ⟨[], [], rfl, by simp, by simp, by simp, by simpa using hF, by simp, rfl, fun Lx stx d hFx _ => ⟨fun _ => ⟨stx, ?_, by simpa using hFx, by simp, rfl⟩, fun i h1 => by simp at h1⟩⟩
    unfold line; simp only [hq]
  · rename_i c y hq
    split at h
    · rename_i hc
      injection h with h; subst h
      refine ⟨[], [], rfl, by simp, by simp, by simp, by rw [List.append_nil]; exact ⟨hF.nodes, hF.node⟩, by simp [kfs], rfl, fun Lx stx d hFx _ => ⟨fun _ => ⟨{ stx with notes := stx.notes ++ [⟨a + d + nB r, a + d + r.length, r.drop (nB r)⟩] }, ?_, by rw [List.append_nil]; exact ⟨hFx.nodes, hFx.node⟩, by simp [kfs], rfl⟩, fun i h1 => by simp at h1⟩⟩
      unfold line; simp only [hq, if_pos hc]
    · rename_i hc
      split at h
      · obtain ⟨j, nd, h1, h2⟩ := header_kind h (by rw [hF.len]; omega)
        exact absurd h2 (hns j nd h1)
      · rename_i hc2
        obtain ⟨key, t, k1, k2, k3, k4, k5⟩ := entry_flat hF h
        refine ⟨[(key, t)], [a + nB r], rfl, by simp, ?_, by simpa using k1, k2, k3, k4, fun Lx stx d hFx hm => ?_⟩
        · have := congrArg List.length hq
          simp only [List.length_drop, List.length_cons] at this
          simp; omega
        · have hline : line stx r (a + d) = entry stx (r.drop (nB r)) (a + nB r + d) := by
            unfold line
            simp only [hq, if_neg hc, if_neg hc2]
            rw [show a + d + nB r = a + nB r + d from by omega]
          obtain ⟨m1, m2⟩ := k5 [] Lx stx d hFx (by simp at hm ⊢; omega)
          constructor
          · intro hall
            obtain ⟨stx', n1, n2, n3, n4⟩ := m2 (hall (key, t) (by simp))
            exact ⟨stx', by rw [hline, n1], n2, by rw [n3]; rfl, n4⟩
          · intro i h1 h2 hin _
            have : i = 0 := by simp at h1; exact h1
            subst this
            rw [hline, m1 hin]; rfl
theorem run_flat {L : List (Str × Str)} {st st' : St} {r : Str} {a : Nat} (hF : Flat [] L st) (h : run st r a = .ok st') (hns : NoSec st') :
    ∃ L2 K2, L2.length = K2.length ∧ L2.length ≤ r.length ∧ (∀ e ∈ L2, e.1 ∉ L.map (·.1)) ∧ Flat [] (L ++ L2) st' ∧ kfs st' = kfs st ++ K2 ∧ st'.span = st.span ∧
      ∀ Lx stx d, Flat [] Lx stx → 2 * (Lx.length + L2.length) + 3 ≤ 4096 →
        ((∀ e ∈ L2, e.1 ∉ Lx.map (·.1)) → ∃ stx', run stx r (a + d) = .ok stx' ∧ Flat [] (Lx ++ L2) stx' ∧ kfs stx' = kfs stx ++ K2.map (· + d) ∧ stx'.span = stx.span) ∧
        (∀ i (h1 : i < L2.length) (h2 : i < K2.length), L2[i].1 ∈ Lx.map (·.1) → (∀ j (h3 : j < L2.length), j < i → L2[j].1 ∉ Lx.map (·.1)) → run stx r (a + d) = .err (K2[i] + d) 8) := by
  generalize hn : r.length = n
  induction n using Nat.strongRecOn generalizing st r a L with
  | ind n ih =>
    rcases split_cases r with h1 | ⟨l, q, rfl, h1⟩
    · rw [run_last _ _ _ h1] at h
      obtain ⟨L2, K2, j1, j2, j3, j4, j5, j6, j7, j8⟩ := line_flat hF h hns
      refine ⟨L2, K2, j1, by omega, j4, j5, j6, j7, fun Lx stx d hFx hm => ?_⟩
      obtain ⟨m1, m2⟩ := j8 Lx stx d hFx hm
      rw [run_last _ _ _ h1]
      exact ⟨m1, m2⟩
    · rw [run_line _ _ _ _ h1] at h
      cases hl : Ini.line st (cr l) a with
      | err x e => rw [hl] at h; cases h
      | ok s1 =>
        rw [hl] at h
        have h : run s1 q (a + l.length + 1) = .ok st' := h
        simp only [List.length_append, List.length_cons] at hn
        have hg : Good st := ⟨by rw [hF.len]; omega, hF.lt⟩
        have hns1 : NoSec s1 := by
          intro j nd hj hk
          obtain ⟨nd', k1, k2⟩ := run_kinds (line_good hl hg) h hj
          exact hns j nd' k1 (k2.trans hk)
        obtain ⟨L2, K2, j1, j2, j3, j4, j5, j6, j7, j8⟩ := line_flat hF hl hns1
        obtain ⟨L3, K3, i1, i2, i3, i4, i5, i6, i7⟩ := ih q.length (by omega) j5 h rfl
        have hcr := cr_le l
        refine ⟨L2 ++ L3, K2 ++ K3, by simp [j1, i1], by rw [List.length_append]; omega, ?_, by rw [← List.append_assoc]; exact i4, by rw [i5, j6, List.append_assoc], by rw [i6, j7], ?_⟩
        · intro e he
          rcases List.mem_append.1 he with he | he
          · exact j4 e he
          · intro hm; exact i3 e he (by rw [List.map_append]; exact List.mem_append_left _ hm)
        · intro Lx stx d hFx hm
          rw [List.length_append] at hm
          obtain ⟨m1, m2⟩ := j8 Lx stx d hFx (by omega)
          rw [run_line _ _ _ _ h1]
          have hstep : (∀ e ∈ L2, e.1 ∉ Lx.map (·.1)) → ∃ sx, line stx (cr l) (a + d) = .ok sx ∧ Flat [] (Lx ++ L2) sx ∧ kfs sx = kfs stx ++ K2.map (· + d) ∧ sx.span = stx.span ∧
              ((line stx (cr l) (a + d)).bind' fun st' => run st' q (a + d + l.length + 1)) = run sx q (a + l.length + 1 + d) := by
            intro hall
            obtain ⟨sx, n1, n2, n3, n4⟩ := m1 hall
            refine ⟨sx, n1, n2, n3, n4, ?_⟩
            rw [n1]
            show run sx q _ = _
            rw [show a + d + l.length + 1 = a + l.length + 1 + d from by omega]
          constructor
          · intro hall
            obtain ⟨sx, n1, n2, n3, n4, n5⟩ := hstep (fun e he => hall e (List.mem_append_left _ he))
            rw [n5]
            obtain ⟨p1, _⟩ := i7 (Lx ++ L2) sx d n2 (by rw [List.length_append]; omega)
            obtain ⟨sx2, q1, q2, q3, q4⟩ := p1 (fun e he hm2 => by
              rw [List.map_append] at hm2
              rcases List.mem_append.1 hm2 with hm2 | hm2
              · exact hall e (List.mem_append_right _ he) hm2
              · exact i3 e he (by rw [List.map_append]; exact List.mem_append_right _ hm2))
            exact ⟨sx2, q1, by rw [← List.append_assoc]; exact q2, by rw [q3, n3, List.map_append, List.append_assoc], by rw [q4, n4]⟩
          · intro i hi hi2 hin hno
            by_cases hlt : i < L2.length
            · rw [List.getElem_append_left hlt] at hin
              have e := m2 i hlt (by omega) hin (fun j h3 hj => by
                have := hno j (by rw [List.length_append]; omega) hj
                rwa [List.getElem_append_left h3] at this)
              rw [e, List.getElem_append_left (by omega)]; rfl
            · have hL2 : ∀ e ∈ L2, e.1 ∉ Lx.map (·.1) := by
                intro e he
                obtain ⟨j, hj, rfl⟩ := List.mem_iff_getElem.1 he
                have := hno j (by rw [List.length_append]; omega) (by omega)
                rwa [List.getElem_append_left hj] at this
              obtain ⟨sx, n1, n2, n3, n4, n5⟩ := hstep hL2
              rw [n5]
              obtain ⟨_, p2⟩ := i7 (Lx ++ L2) sx d n2 (by rw [List.length_append]; omega)
              rw [List.length_append] at hi hi2
              rw [List.getElem_append_right (by omega)] at hin
              have e := p2 (i - L2.length) (by omega) (by omega) (by rw [List.map_append]; exact List.mem_append_left _ hin) (fun j h3 hj hm2 => by
                rw [List.map_append] at hm2
                rcases List.mem_append.1 hm2 with hm2 | hm2
                · have := hno (L2.length + j) (by rw [List.length_append]; omega) (by omega)
                  rw [List.getElem_append_right (by omega)] at this
                  apply this
                  have e0 : L2.length + j - L2.length = j := by omega
                  simp only [e0]; exact hm2
                · exact i3 _ (List.getElem_mem h3) (by rw [List.map_append]; exact List.mem_append_right _ hm2))
              rw [e, List.getElem_append_right (by omega)]
              simp only [j1]
theorem start_flat (n : Nat) : Flat [] [] (start n) := ⟨rfl, rfl⟩
theorem parse_ok {s : Str} {st : St} (hl : s.length ≤ 65536) (h : parse s = .ok st) : bad s = none ∧ ctl s 0 = none ∧ run (start s.length) s 0 = .ok st := by
  rw [parse_eq s hl] at h
  cases hb : bad s with
  | some x => rw [hb] at h; cases h
  | none =>
    rw [hb] at h
    simp only at h
    cases hc : ctl s 0 with
    | some x => rw [hc] at h; cases h
    | none => rw [hc] at h; exact ⟨rfl, rfl, h⟩
/-- THE PLAIN LAW of IniJoins. -/
theorem joins_law {a b : Str} {c d : St} (ha : a.length ≤ 300) (hb : b.length ≤ 300) (hc : parse (a ++ [10]) = .ok c) (hd : parse b = .ok d) (sc : NoSec c) (sd : NoSec d) :
    ∃ P Q K, Flat [] P c ∧ Flat [] Q d ∧ c.spans.length = P.length + 1 ∧ d.spans.length = Q.length + 1 ∧ P.length ≤ 301 ∧ Q.length ≤ 300 ∧ Q.length = K.length ∧ kfs d = 0 :: K ∧
      ((∀ e ∈ Q, e.1 ∉ P.map (·.1)) → ∃ x, parse (a ++ [10] ++ b) = .ok x ∧ Flat [] (P ++ Q) x ∧ x.spans.length = P.length + Q.length + 1) ∧
      (∀ i (h1 : i < Q.length) (h2 : i < K.length), Q[i].1 ∈ P.map (·.1) → (∀ j (h3 : j < Q.length), j < i → Q[j].1 ∉ P.map (·.1)) → parse (a ++ [10] ++ b) = .err (K[i] + (a.length + 1)) 8) := by
  obtain ⟨b1, c1, r1⟩ := parse_ok (by simp; omega) hc
  obtain ⟨b2, c2, r2⟩ := parse_ok (by omega) hd
  obtain ⟨P, K1, p1, p2, _, p4, p5, _, p7⟩ := run_flat (start_flat _) r1 sc
  obtain ⟨Q, K, q1, q2, _, q4, q5, _, q7⟩ := run_flat (start_flat _) r2 sd
  rw [List.nil_append] at p4 q4
  have hla : (a ++ [10]).length = a.length + 1 := by simp
  obtain ⟨x0, x1, x2, x3, x4⟩ := (p7 [] (start (a ++ [10] ++ b).length) 0 (start_flat _) (by simp; omega)).1 (by simp)
  have hp : parse (a ++ [10] ++ b) = run x0 b (0 + (a.length + 1)) := by
    rw [parse_eq _ (by simp; omega)]
    have e : a ++ [10] ++ b = a ++ 10 :: b := by simp
    have hbad : bad (a ++ 10 :: b) = none := by
      rw [bad_end] at b1
      rw [bad_app a b 10 (by decide), b1, b2]; rfl
    have hctl : ctl (a ++ 10 :: b) 0 = none := (ctl_part a b 0).2 ⟨c1, c2⟩
    rw [e, hbad, hctl]
    simp only
    rw [run_join]
    rw [← e]
    have x1 : run (start (a ++ [10] ++ b).length) (a ++ [10]) 0 = .ok x0 := x1
    rw [x1]
    show run x0 b _ = _
    rw [Nat.add_assoc]
  have k0 : ∀ n, kfs (start n) = [0] := fun n => rfl
  have kl : ∀ s : St, (kfs s).length = s.spans.length := fun s => by simp [kfs]
  rw [List.nil_append] at x2
  obtain ⟨m1, m2⟩ := q7 P x0 (a.length + 1) x2 (by omega)
  refine ⟨P, Q, K, p4, q4, ?_, ?_, by omega, Nat.le_trans q2 hb, q1, by rw [q5, k0]; rfl, ?_, ?_⟩
  · rw [← kl, p5, k0, p1]; simp
  · rw [← kl, q5, k0, q1]; simp
  · intro hall
    obtain ⟨x, y1, y2, y3, y4⟩ := m1 hall
    refine ⟨x, by rw [hp, y1], y2, ?_⟩
    rw [← kl, y3, x3, k0, p1, q1]; simp
  · intro i h1 h2 hin hno
    rw [hp, m2 i h1 h2 hin hno]
end Ini
end Go.Proofs.YtegdemnfjmaicaaDoor
namespace Go.Proofs.YtegdemnfjmaicaaDoor
namespace Ini
def lowHex : Str := [48, 49, 50, 51, 52, 53, 54, 55, 56, 57, 97, 98, 99, 100, 101, 102]
def upHex : Str := [48, 49, 50, 51, 52, 53, 54, 55, 56, 57, 65, 66, 67, 68, 69, 70]
/-- a byte as it is written in quotes. -/
def qc (c : UInt8) : Str :=
  if c = 92 ∨ c = 34 then [92, c]
  else if c = 10 then [92, 110]
  else if c < 32 then [92, 117, 123, lowHex.getD (c.toNat / 16) 0, upHex.getD (c.toNat % 16) 0, 125]
  else [c]
def qs : Str → Str
  | [] => []
  | c :: s => qc c ++ qs s
def quote (s : Str) : Str := 34 :: (qs s ++ [34])
theorem qc_len (c : UInt8) : (qc c).length ≤ 6 := by
  unfold qc; repeat' split
  all_goals simp
theorem qs_len (s : Str) : (qs s).length ≤ 6 * s.length := by
  induction s with
  | nil => simp [qs]
  | cons c s ih => have := qc_len c; simp only [qs, List.length_append, List.length_cons]; omega
theorem qs_snoc (s : Str) (c : UInt8) : qs (s ++ [c]) = qs s ++ qc c := by
  induction s with
  | nil => simp [qs]
  | cons d s ih => simp [qs, ih]
theorem low_facts : ∀ n, n < 32 → let c := UInt8.ofNat n
    isHex (lowHex.getD (c.toNat / 16) 0) = true ∧ isHex (upHex.getD (c.toNat % 16) 0) = true ∧ hexVal [lowHex.getD (c.toNat / 16) 0, upHex.getD (c.toNat % 16) 0] = c.toNat ∧
      32 ≤ (lowHex.getD (c.toNat / 16) 0).toNat ∧ 32 ≤ (upHex.getD (c.toNat % 16) 0).toNat ∧ (lowHex.getD (c.toNat / 16) 0).toNat < 128 ∧ (upHex.getD (c.toNat % 16) 0).toNat < 128 := by decide
theorem low_c (c : UInt8) (h : c < 32) : isHex (lowHex.getD (c.toNat / 16) 0) = true ∧ isHex (upHex.getD (c.toNat % 16) 0) = true ∧ hexVal [lowHex.getD (c.toNat / 16) 0, upHex.getD (c.toNat % 16) 0] = c.toNat ∧
      32 ≤ (lowHex.getD (c.toNat / 16) 0).toNat ∧ 32 ≤ (upHex.getD (c.toNat % 16) 0).toNat ∧ (lowHex.getD (c.toNat / 16) 0).toNat < 128 ∧ (upHex.getD (c.toNat % 16) 0).toNat < 128 := by
  have h1 : c.toNat < 32 := UInt8.lt_iff_toNat_lt.1 h
  have := low_facts c.toNat h1
  simp only [UInt8.ofNat_toNat] at this
  exact this
theorem Q_qc (c : UInt8) (z : Str) (b : Nat) (acc : Str) : Q (qc c ++ z) b acc = Q z (b + (qc c).length) (acc ++ [c]) := by
  unfold qc
  by_cases h1 : c = 92 ∨ c = 34
  · rw [if_pos h1]
    show Q (92 :: c :: z) b acc = _
    rw [Q_esc]
    have e : esc (92 :: c :: z) = .ok ([c], 2) := by simp only [esc, List.drop_succ_cons, List.drop_zero, if_pos h1]
    rw [e]; rfl
  · rw [if_neg h1]
    by_cases h2 : c = 10
    · subst h2
      rw [if_pos rfl]
      show Q (92 :: 110 :: z) b acc = _
      rw [Q_esc]
      rfl
    · rw [if_neg h2]
      by_cases h3 : c < 32
      · rw [if_pos h3]
        obtain ⟨a1, a2, a3, _⟩ := low_c c h3
        revert a1 a2 a3
        generalize lowHex.getD (c.toNat / 16) 0 = x
        generalize upHex.getD (c.toNat % 16) 0 = y
        intro a1 a2 a3
        show Q (92 :: 117 :: 123 :: x :: y :: 125 :: z) b acc = _
        rw [Q_esc]
        have ht : ((x :: y :: 125 :: z).take 6).takeWhile isHex = [x, y] := by
          simp only [List.take_succ_cons, List.takeWhile_cons, a1, a2, if_true]
          rw [show isHex 125 = false from by decide]; simp
        have hc32 : c.toNat < 32 := UInt8.lt_iff_toNat_lt.1 h3
        have hs : isScalar c.toNat = true := by unfold isScalar; simp; omega
        have e : esc (92 :: 117 :: 123 :: x :: y :: 125 :: z) = .ok ([c], 6) := by
          have eu : esc (92 :: 117 :: 123 :: x :: y :: 125 :: z) = (match ((x :: y :: 125 :: z).take 6).takeWhile isHex, (x :: y :: 125 :: z).drop (((x :: y :: 125 :: z).take 6).takeWhile isHex).length with
                      | [], _ => .err 0 4
                      | _ :: _, [] => .err 0 4
                      | _ :: _, z' :: _ => if z' ≠ 125 then .err 0 4 else if isScalar (hexVal (((x :: y :: 125 :: z).take 6).takeWhile isHex)) then .ok (enc (hexVal (((x :: y :: 125 :: z).take 6).takeWhile isHex)), (((x :: y :: 125 :: z).take 6).takeWhile isHex).length + 4) else .err 0 11) := rfl
          rw [eu, ht]
          show (if (125 : UInt8) ≠ 125 then _ else if isScalar (hexVal [x, y]) = true then Res.ok (enc (hexVal [x, y]), 6) else _) = _
          rw [if_neg (by decide), a3, if_pos hs]
          unfold enc
          rw [if_pos (by omega)]
          simp
        rw [e]; rfl
      · rw [if_neg h3]
        simp only [not_or] at h1
        exact Q_byte c z b acc h1.2 h1.1
theorem Q_qs (s z : Str) (b : Nat) (acc : Str) : Q (qs s ++ 34 :: z) b acc = .ok (acc ++ s, b + (qs s).length + 1) := by
  induction s generalizing b acc with
  | nil => simp [qs, Q_end]
  | cons c s ih =>
    simp only [qs]
    rw [List.append_assoc, Q_qc, ih]
    simp; omega
theorem quoted_quote (s z : Str) (b : Nat) : quoted (quote s ++ z) b = .ok (s, b + (quote s).length) := by
  unfold quote
  rw [List.cons_append, quoted_Q, List.append_assoc, List.singleton_append, Q_qs]
  simp; omega
theorem bad_ascii (A t : Str) (hA : ∀ c ∈ A, c.toNat < 128) (ht : bad t = none) : bad (A ++ t) = none := by
  induction A with
  | nil => exact ht
  | cons c A ih =>
    rw [List.cons_append, bad_cons _ _ (hA c (by simp)), ih (fun d hd => hA d (by simp [hd]))]; rfl
theorem bad_mid (x A t : Str) (hx : bad x = none) (hA : ∀ c ∈ A, c.toNat < 128) (h0 : A ≠ []) (ht : bad t = none) : bad (x ++ A ++ t) = none := by
  cases A with
  | nil => exact absurd rfl h0
  | cons c A =>
    rw [List.append_assoc, List.cons_append, bad_app _ _ _ (hA c (by simp)), hx, bad_ascii A t (fun d hd => hA d (by simp [hd])) ht]; rfl
theorem qc_same_or (c : UInt8) : qc c = [c] ∨ (c.toNat < 128 ∧ (∀ d ∈ qc c, d.toNat < 128) ∧ qc c ≠ []) := by
  unfold qc
  split
  · rename_i h
    right
    refine ⟨by rcases h with rfl | rfl <;> decide, ?_, by simp⟩
    intro d hd
    simp at hd
    rcases hd with rfl | rfl
    · decide
    · rcases h with rfl | rfl <;> decide
  · split
    · rename_i h
      right
      subst h
      refine ⟨by decide, by decide, by simp⟩
    · split
      · rename_i h
        right
        obtain ⟨a1, a2, a3, a4, a5, a6, a7⟩ := low_c c h
        have h1 : c.toNat < 32 := UInt8.lt_iff_toNat_lt.1 h
        refine ⟨by omega, ?_, by simp⟩
        intro d hd
        simp only [List.mem_cons, List.not_mem_nil, or_false] at hd
        rcases hd with rfl | rfl | rfl | rfl | rfl | rfl
        · decide
        · decide
        · decide
        · exact a6
        · exact a7
        · decide
      · left; rfl
theorem bad_qs (x s : Str) (h : bad (x ++ s) = none) : bad (x ++ qs s) = none := by
  induction s generalizing x with
  | nil => exact h
  | cons c s ih =>
    simp only [qs]
    rcases qc_same_or c with e | ⟨e1, e2, e3⟩
    · rw [e, ← List.append_assoc]
      exact ih (x ++ [c]) (by simpa using h)
    · have hs : bad s = none := bad_tail e1 h
      have hx : bad x = none := bad_cut h (.inr ⟨c, s, rfl, e1⟩)
      rw [← List.append_assoc]
      exact bad_mid x (qc c) (qs s) hx e2 e3 (by simpa using ih [] (by simpa using hs))
theorem bad_quote {s : Str} (h : bad s = none) : bad (quote s) = none := by
  unfold quote
  rw [bad_cons _ _ (by decide), bad_app _ [] 34 (by decide), show bad (qs s) = none from by simpa using bad_qs [] s (by simpa using h)]
  rfl
/-- quoted pieces divide. -/
theorem bad_join {x y : Str} {c : UInt8} (hc : c.toNat < 128) (hx : bad x = none) (hy : bad y = none) : bad (x ++ c :: y) = none := by
  rw [bad_app _ _ _ hc, hx, hy]; rfl
theorem bad_quote_app {s t : Str} (h : bad s = none) (ht : bad t = none) : bad (quote s ++ t) = none := by
  unfold quote
  rw [List.cons_append, List.append_assoc, List.singleton_append, bad_cons _ _ (by decide)]
  rw [bad_join (by decide) (by simpa using bad_qs [] s (by simpa using h)) ht]; rfl
theorem cl_qc (c : UInt8) : Cl (qc c) := by
  unfold qc
  split
  · rename_i h
    intro d hd
    simp at hd
    left
    rcases hd with rfl | rfl
    · decide
    · rcases h with rfl | rfl <;> decide
  · split
    · intro d hd
      simp at hd
      left
      rcases hd with rfl | rfl <;> decide
    · split
      · rename_i h
        obtain ⟨a1, a2, a3, a4, a5, a6, a7⟩ := low_c c h
        intro d hd
        left
        simp only [List.mem_cons, List.not_mem_nil, or_false] at hd
        rcases hd with rfl | rfl | rfl | rfl | rfl | rfl
        · decide
        · decide
        · decide
        · exact a4
        · exact a5
        · decide
      · rename_i h
        intro d hd
        simp at hd
        subst hd
        left
        have : ¬ d.toNat < 32 := fun h2 => h (UInt8.lt_iff_toNat_lt.2 h2)
        omega
theorem Cl.app {x y : Str} (hx : Cl x) (hy : Cl y) : Cl (x ++ y) := fun c hc => by
  rcases List.mem_append.1 hc with h | h
  · exact hx c h
  · exact hy c h
theorem cl_qs (s : Str) : Cl (qs s) := by
  induction s with
  | nil => intro c hc; cases hc
  | cons c s ih => exact (cl_qc c).app ih
theorem cl_lit {l : Str} (h : l.all (fun c => decide (32 ≤ c.toNat) || c == 9) = true) : Cl l := by
  intro c hc
  have := List.all_eq_true.1 h c hc
  simpa using this
theorem cl_quote (s : Str) : Cl (quote s) := by
  unfold quote
  rw [← List.singleton_append]
  exact (cl_lit (by decide)).app ((cl_qs s).app (cl_lit (by decide)))
theorem ctl_clean_app {y : Str} (h : Cl y) (z : Str) (i : Nat) (hz : ctl z 0 = none) : ctl (y ++ z) i = none := by
  induction y generalizing i with
  | nil => exact ctl_none _ _ _ hz
  | cons c y ih =>
    rw [List.cons_append, ctl_cons, if_neg]
    · exact ih (fun d hd => h d (by simp [hd])) _
    · intro hif
      simp only [Bool.and_eq_true, decide_eq_true_eq, bne_iff_ne, ne_eq] at hif
      rcases h c (by simp) with h1 | h1
      · exact absurd (UInt8.lt_iff_toNat_lt.1 hif.1.1) (by simp; omega)
      · exact hif.1.2 h1
theorem quote_head (s z : Str) : (quote s ++ z).head? = some 34 := rfl
theorem nB_quote (s z : Str) : nB (quote s ++ z) = 0 := by unfold quote; rw [List.cons_append, nB_cons]; rfl
/-- an entry's line. -/
def qline (e : Str × Str) : Str := quote e.1 ++ 61 :: quote e.2
def qlines : List (Str × Str) → Str
  | [] => []
  | e :: L => qline e ++ 10 :: qlines L
def qhead (name : Str) : Str := 32 :: 91 :: 9 :: (quote name ++ [32, 93])
def qsrc (name : Str) (L : List (Str × Str)) : Str := (qhead name ++ [13]) ++ 10 :: qlines L
theorem cl_qline (e : Str × Str) : Cl (qline e) := by
  unfold qline
  rw [← List.singleton_append]
  exact (cl_quote _).app ((cl_lit (by decide)).app (cl_quote _))
theorem cl_qhead (n : Str) : Cl (qhead n) := by
  unfold qhead
  exact (cl_lit (l := [32, 91, 9]) (by decide)).app ((cl_quote _).app (cl_lit (by decide)))
theorem line_q {P : List Nd} {L : List (Str × Str)} {st : St} (hF : Flat P L st) (e : Str × Str) (a : Nat) (hm : P.length + 2 * L.length + 3 ≤ 4096) (hk : e.1 ∉ L.map (·.1)) :
    ∃ st', line st (qline e) a = .ok st' ∧ Flat P (L ++ [e]) st' := by
  have hname : name (qline e) a 61 = .ok (e.1, a + (quote e.1).length, a + (quote e.1).length + 1) := by
    unfold name qline
    rw [if_pos (quote_head _ _), quoted_quote]
    simp only
    rw [Nat.add_sub_cancel_left, List.drop_left, show nB (61 :: quote e.2) = 0 from by rw [nB_cons]; rfl]
    simp
  have hd : (qline e).drop (a + (quote e.1).length + 1 - a) = quote e.2 := by
    unfold qline
    rw [show a + (quote e.1).length + 1 - a = (quote e.1).length + 1 from by omega, List.drop_append]
    simp
  have hval : ∀ b, value (quote e.2) b = .ok (e.2, b + (quote e.2).length) := by
    intro b
    have h := quoted_quote e.2 [] b
    rw [List.append_nil] at h
    unfold value
    rw [if_pos (show (quote e.2).head? = some 34 from rfl), h]
    simp only
    rw [Nat.add_sub_cancel_left, List.drop_length, if_neg (by simp [nB])]
  have hline : line st (qline e) a = entry st (qline e) a := by
    unfold line
    have h0 : nB (qline e) = 0 := by unfold qline; exact nB_quote _ _
    rw [h0, List.drop_zero]
    simp only
    have hq : qline e = 34 :: (qs e.1 ++ [34] ++ 61 :: quote e.2) := by unfold qline quote; simp
    conv => lhs; rw [hq]
    simp only
    rw [if_neg (by decide), if_neg (by decide), ← hq]; rfl
  have hq0 : nB (quote e.2) = 0 := by have := nB_quote e.2 []; rwa [List.append_nil] at this
  have hent : entry st (qline e) a = (match Ini.add st st.node st.span e.1 ⟨5, e.2, [], []⟩ ⟨0, 0, 0, a + (quote e.1).length + 1, a + (quote e.1).length + 1 + (quote e.2).length, a, a + (quote e.1).length, true⟩ with
        | .err x e => .err x e
        | .ok st' => if st.span > 0 then .ok { st' with spans := setTo st'.spans st.span (a + (quote e.1).length + 1 + (quote e.2).length) } else .ok st') := by
    unfold entry
    rw [hname]
    simp only
    rw [hd, hq0, List.drop_zero, Nat.add_zero, hval]
    rfl
  have hkin := hF.keyIn e.1
  rw [← hF.node, show decide (e.1 ∈ L.map (·.1)) = false from decide_eq_false hk] at hkin
  rcases add_cases st st.node st.span e.1 ⟨5, e.2, [], []⟩ ⟨0, 0, 0, a + (quote e.1).length + 1, a + (quote e.1).length + 1 + (quote e.2).length, a, a + (quote e.1).length, true⟩ hF.lt with g | g | ⟨_, _, g⟩
  · unfold Ini.add at g
    rw [if_neg (by rw [hkin]; simp)] at g
    split at g
    · cases g
    · rw [List.getElem?_eq_getElem hF.lt] at g; cases g
  · unfold Ini.add at g
    rw [if_neg (by rw [hkin]; simp), if_neg (by rw [hF.len]; omega), List.getElem?_eq_getElem hF.lt] at g
    cases g
  · rw [hline, hent, g]
    simp only
    by_cases hs : st.span > 0
    · rw [if_pos hs]
      exact ⟨_, rfl, hF.add e.1 e.2 _ rfl rfl rfl⟩
    · rw [if_neg hs]
      exact ⟨_, rfl, hF.add e.1 e.2 _ rfl rfl rfl⟩
theorem run_q {P : List Nd} (M L : List (Str × Str)) {st : St} (hF : Flat P L st) (a : Nat) (hm : P.length + 2 * (L.length + M.length) + 3 ≤ 4096) (hd : (L ++ M).Pairwise (fun e f => e.1 ≠ f.1)) :
    ∃ st', run st (qlines M) a = .ok st' ∧ Flat P (L ++ M) st' := by
  induction M generalizing L st a with
  | nil => exact ⟨st, run_nil _ _, by simpa using hF⟩
  | cons e M ih =>
    have hk : e.1 ∉ L.map (·.1) := by
      intro hmem
      obtain ⟨f, hf, he⟩ := List.mem_map.1 hmem
      exact (List.pairwise_append.1 hd).2.2 f hf e (by simp) he
    simp only [List.length_cons] at hm
    obtain ⟨s1, h1, h2⟩ := line_q hF e a (by omega) hk
    simp only [qlines]
    rw [run_line _ _ _ _ (cl_qline e).no10, cr_self _ (fun h => by rcases cl_qline e 13 (List.mem_of_getLast? h) with h | h <;> simp at h), h1]
    obtain ⟨s2, h3, h4⟩ := ih (L ++ [e]) h2 (a + (qline e).length + 1) (by simp; omega) (by simpa using hd)
    exact ⟨s2, h3, by simpa using h4⟩
theorem line_head (n : Nat) (name : Str) : ∃ st, line (start n) (qhead name) 0 = .ok st ∧ Flat [⟨10, [], [1], [2]⟩, ⟨5, name, [], []⟩] [] st := by
  have hline : line (start n) (qhead name) 0 = header (start n) (91 :: 9 :: (quote name ++ [32, 93])) 1 := by
    unfold line
    have h0 : nB (qhead name) = 1 := by unfold qhead; rw [nB_cons, if_pos (by decide), nB_cons]; rfl
    rw [h0]
    rfl
  have hnb : nB (9 :: (quote name ++ [32, 93])) = 1 := by rw [nB_cons, if_pos (by decide), nB_quote]
  have hname : Ini.name (quote name ++ [32, 93]) 3 93 = .ok (name, 3 + (quote name).length, 3 + (quote name).length + 2) := by
    unfold Ini.name
    rw [if_pos (quote_head _ _), quoted_quote]
    simp only
    rw [Nat.add_sub_cancel_left, List.drop_left]
    rfl
  rw [hline]
  unfold header
  simp only [List.drop_succ_cons, List.drop_zero]
  rw [hnb, List.drop_succ_cons, List.drop_zero, hname]
  simp only
  have hd : (91 :: 9 :: (quote name ++ [32, 93])).drop (3 + (quote name).length + 2 - 1) = [] := by
    apply List.drop_of_length_le
    simp; omega
  rw [hd, if_neg (by simp [nB])]
  exact ⟨_, rfl, rfl, rfl⟩
theorem qlines_len (L : List (Str × Str)) (h : ∀ e ∈ L, e.1.length ≤ 100 ∧ e.2.length ≤ 100) : (qlines L).length ≤ 1300 * L.length := by
  induction L with
  | nil => simp [qlines]
  | cons e L ih =>
    have := ih (fun f hf => h f (by simp [hf]))
    have h1 := h e (by simp)
    have h2 := qs_len e.1
    have h3 := qs_len e.2
    simp only [qlines, qline, quote, List.length_append, List.length_cons, List.length_nil]
    omega
theorem qlines_bad (L : List (Str × Str)) (h : ∀ e ∈ L, bad e.1 = none ∧ bad e.2 = none) : bad (qlines L) = none ∧ ctl (qlines L) 0 = none := by
  induction L with
  | nil => exact ⟨rfl, rfl⟩
  | cons e L ih =>
    obtain ⟨i1, i2⟩ := ih (fun f hf => h f (by simp [hf]))
    obtain ⟨h1, h2⟩ := h e (by simp)
    simp only [qlines]
    refine ⟨bad_join (by decide) (bad_join (by decide) (bad_quote h1) (bad_quote h2)) i1, (ctl_part _ _ 0).2 ⟨?_, i2⟩⟩
    exact ctl_clean_app (cl_qline e) [10] 0 rfl
/-- THE PLAIN LAW of IniQuotes. -/
theorem quotes_law (name : Str) (L : List (Str × Str)) (hn : bad name = none) (hnl : name.length ≤ 100) (hL : L.length ≤ 10) (hl : ∀ e ∈ L, e.1.length ≤ 100 ∧ e.2.length ≤ 100) (hb : ∀ e ∈ L, bad e.1 = none ∧ bad e.2 = none)
    (hd : L.Pairwise (fun e f => e.1 ≠ f.1)) : (qsrc name L).length ≤ 20000 ∧ ∃ st, parse (qsrc name L) = .ok st ∧ Flat [⟨10, [], [1], [2]⟩, ⟨5, name, [], []⟩] L st := by
  have h1 := qlines_len L hl
  have h2 := qs_len name
  obtain ⟨h3, h4⟩ := qlines_bad L hb
  have hlen : (qsrc name L).length ≤ 20000 := by
    unfold qsrc qhead quote
    simp only [List.length_append, List.length_cons, List.length_nil]
    omega
  refine ⟨hlen, ?_⟩
  have hbad : bad (qsrc name L) = none := by
    unfold qsrc
    refine bad_join (by decide) (bad_join (by decide) ?_ rfl) h3
    unfold qhead
    rw [bad_cons _ _ (by decide), bad_cons _ _ (by decide), bad_cons _ _ (by decide), bad_quote_app hn (by decide)]; rfl
  have hctl : ctl (qsrc name L) 0 = none := by
    unfold qsrc
    refine (ctl_part _ _ 0).2 ⟨?_, h4⟩
    rw [List.append_assoc]
    exact ctl_clean_app (cl_qhead name) _ 0 rfl
  rw [parse_eq _ (by omega), hbad, hctl]
  simp only
  obtain ⟨s1, k1, k2⟩ := line_head (qsrc name L).length name
  have hno : (10 : UInt8) ∉ qhead name ++ [13] := by
    intro hm
    rcases List.mem_append.1 hm with hm | hm
    · exact (cl_qhead name).no10 hm
    · simp at hm
  have hcr : cr (qhead name ++ [13]) = qhead name := by
    unfold cr
    rw [if_pos (by simp), List.dropLast_concat]
  obtain ⟨s2, k3, k4⟩ := run_q L [] k2 (0 + (qhead name ++ [13]).length + 1) (by simp; omega) (by simpa using hd)
  refine ⟨s2, ?_, by simpa using k4⟩
  show run (start (qsrc name L).length) (qsrc name L) 0 = _
  conv => lhs; arg 2; unfold qsrc
  rw [run_line _ _ _ _ hno, hcr, k1]
  exact k3
end Ini
end Go.Proofs.YtegdemnfjmaicaaDoor

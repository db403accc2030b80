/- The reference's UTF-8 against the model's: plain. The reference's UTF-8 reader against the model's decoder: up to two bytes. The reference's UTF-8 reader against the model's decoder: three and four bytes. The reference's first invalid offset is the program's: plain. -/
import Derived.Test.YtegdemnfjmaicaaDoorPlainU
namespace Go.Proofs.YtegdemnfjmaicaaDoor
namespace Ini
/-- the row of the reference for a first byte: length, the first byte's bits, least and greatest value. -/
def rowOf (c : Nat) : Nat × Nat × Nat × Nat :=
  if 192 ≤ c ∧ c < 224 then (2, c - 192, 128, 2047)
  else if 224 ≤ c ∧ c < 240 then (3, c - 224, 2048, 65535)
  else if 240 ≤ c ∧ c < 248 then (4, c - 240, 65536, 1114111)
  else (0, 0, 0, 0)
/-- the bytes behind the first, added to a value; none if one of them does not go on. -/
def goOn : Nat → Str → Option Nat
  | v, [] => some v
  | v, c :: r => if c < 128 || 191 < c then none else goOn (64 * v + (c.toNat - 128)) r
def widen : Nat → Nat × Nat → Nat × Nat
  | 0, p => p
  | k + 1, p => widen k (64 * p.1, 64 * p.2 + 63)
def begins (b : Str) : Nat × Nat :=
  match b with
  | [] => (0, 0)
  | c :: r =>
    if c < 128 ∧ r = [] then (c.toNat, 1)
    else
      let n := (rowOf c.toNat).1
      if r.length + 1 > n then (0, 0)
      else match goOn (rowOf c.toNat).2.1 r with
        | none => (0, 0)
        | some v =>
          let p := widen (n - (r.length + 1)) (v, v)
          if p.2 < (rowOf c.toNat).2.2.1 ∨ p.1 > (rowOf c.toNat).2.2.2 ∨ (p.1 ≥ 55296 ∧ p.2 ≤ 57343) then (0, 0) else (p.1, n)
/-- the reference's At on what is left. -/
def refAt (r : Str) : Nat × Nat :=
  if 1 ≤ r.length ∧ (begins (r.take 1)).2 = 1 then begins (r.take 1)
  else if 2 ≤ r.length ∧ (begins (r.take 2)).2 = 2 then begins (r.take 2)
  else if 3 ≤ r.length ∧ (begins (r.take 3)).2 = 3 then begins (r.take 3)
  else if 4 ≤ r.length ∧ (begins (r.take 4)).2 = 4 then begins (r.take 4)
  else (0, 0)
end Ini
end Go.Proofs.YtegdemnfjmaicaaDoor
namespace Go.Proofs.YtegdemnfjmaicaaDoor
namespace Ini
theorem lt8 (c : UInt8) (k : Nat) (hk : k < 256) : (c < UInt8.ofNat k) ↔ c.toNat < k := by
  rw [UInt8.lt_iff_toNat_lt, UInt8.toNat_ofNat_of_lt' (by simpa using hk)]
theorem gt8 (c : UInt8) (k : Nat) (hk : k < 256) : (UInt8.ofNat k < c) ↔ k < c.toNat := by
  rw [UInt8.lt_iff_toNat_lt, UInt8.toNat_ofNat_of_lt' (by simpa using hk)]
/-- does a byte go on. -/
def isC (d : UInt8) : Bool := decide (128 ≤ d.toNat) && decide (d.toNat ≤ 191)
theorem goOn_cons (v : Nat) (d : UInt8) (r : Str) : goOn v (d :: r) = if isC d then goOn (64 * v + (d.toNat - 128)) r else none := by
  have h1 : (d < 128) ↔ d.toNat < 128 := lt8 d 128 (by omega)
  have h2 : (191 < d) ↔ 191 < d.toNat := gt8 d 191 (by omega)
  rw [goOn]
  by_cases hd : isC d = true
  · have : 128 ≤ d.toNat ∧ d.toNat ≤ 191 := by simpa [isC] using hd
    rw [if_pos hd, if_neg]
    simp [h1, h2]; omega
  · rw [if_neg hd, if_pos]
    simp only [isC, Bool.and_eq_true, decide_eq_true_eq] at hd
    simp [h1, h2]; omega
/-- begins at two bytes and more: by the row of the first. -/
theorem begins_row (c d : UInt8) (r : Str) : begins (c :: d :: r) =
    if r.length + 2 > (rowOf c.toNat).1 then (0, 0)
    else match goOn (rowOf c.toNat).2.1 (d :: r) with
      | none => (0, 0)
      | some v => if (widen ((rowOf c.toNat).1 - (r.length + 2)) (v, v)).2 < (rowOf c.toNat).2.2.1 ∨ (widen ((rowOf c.toNat).1 - (r.length + 2)) (v, v)).1 > (rowOf c.toNat).2.2.2 ∨ ((widen ((rowOf c.toNat).1 - (r.length + 2)) (v, v)).1 ≥ 55296 ∧ (widen ((rowOf c.toNat).1 - (r.length + 2)) (v, v)).2 ≤ 57343) then (0, 0) else ((widen ((rowOf c.toNat).1 - (r.length + 2)) (v, v)).1, (rowOf c.toNat).1) := by
  unfold begins
  simp only [reduceCtorEq, and_false, if_false, List.length_cons]
  all_goals rfl
/-- the length that begins tells is the row's, or 0. -/
theorem begins_len (c d : UInt8) (r : Str) : (begins (c :: d :: r)).2 = 0 ∨ ((begins (c :: d :: r)).2 = (rowOf c.toNat).1 ∧ r.length + 2 ≤ (rowOf c.toNat).1) := by
  rw [begins_row]
  split
  · exact .inl rfl
  · rename_i h
    split
    · exact .inl rfl
    · split
      · exact .inl rfl
      · exact .inr ⟨rfl, by omega⟩
theorem begins_one (c : UInt8) : (begins [c]).2 = 1 ↔ c.toNat < 128 := by
  have hlt : c.toNat < 256 := c.toNat_lt
  have h1 : (c < 128) ↔ c.toNat < 128 := by rw [UInt8.lt_iff_toNat_lt]; rfl
  unfold begins
  simp only [and_true, List.length_nil, h1]
  by_cases hc : c.toNat < 128
  · simp [hc]
  · rw [if_neg hc]
    simp only [hc, iff_false]
    unfold rowOf
    split
    · simp only [goOn, widen]; repeat' split
      all_goals simp
    · split
      · simp only [goOn, widen]; repeat' split
        all_goals simp
      · split
        · simp only [goOn, widen]; repeat' split
          all_goals simp
        · simp
theorem row_two (c : Nat) (h : 192 ≤ c ∧ c < 224) : rowOf c = (2, c - 192, 128, 2047) := by unfold rowOf; rw [if_pos h]
theorem row_three (c : Nat) (h : 224 ≤ c ∧ c < 240) : rowOf c = (3, c - 224, 2048, 65535) := by unfold rowOf; rw [if_neg (by omega), if_pos h]
theorem row_four (c : Nat) (h : 240 ≤ c ∧ c < 248) : rowOf c = (4, c - 240, 65536, 1114111) := by unfold rowOf; rw [if_neg (by omega), if_neg (by omega), if_pos h]
theorem row_none (c : Nat) (h : c < 192 ∨ 248 ≤ c) : rowOf c = (0, 0, 0, 0) := by unfold rowOf; rw [if_neg (by omega), if_neg (by omega), if_neg (by omega)]
/-- the reference's answer by the row of the first byte: it stands at the row's length alone. -/
theorem refAt_row (c : UInt8) (r : Str) (n : Nat) (hc : ¬ c.toNat < 128) (hn : (rowOf c.toNat).1 = n) (h2 : 2 ≤ n ∨ n = 0) (h4 : n ≤ 4) :
    refAt (c :: r) = if 2 ≤ n ∧ n ≤ r.length + 1 ∧ (begins ((c :: r).take n)).2 = n then begins ((c :: r).take n) else (0, 0) := by
  have hone : ¬ (begins ((c :: r).take 1)).2 = 1 := by
    rw [show (c :: r).take 1 = [c] from rfl, begins_one]; exact hc
  have hoth : ∀ k, 2 ≤ k → k ≤ r.length + 1 → k ≠ n → ¬ (begins ((c :: r).take k)).2 = k := by
    intro k hk hk2 hkn
    cases r with
    | nil => rw [List.length_nil] at hk2; omega
    | cons d q =>
      obtain ⟨j, rfl⟩ : ∃ j, k = j + 2 := ⟨k - 2, by omega⟩
      have := begins_len c d (q.take j)
      rw [show (c :: d :: q).take (j + 2) = c :: d :: q.take j from rfl]
      have hl : (q.take j).length = j := by rw [List.length_take]; simp only [List.length_cons] at hk2; omega
      intro he
      rcases this with h | h
      · omega
      · omega
  unfold refAt
  rw [if_neg (fun h => hone h.2), List.length_cons]
  by_cases a2 : n = 2
  · subst a2
    by_cases b : 2 ≤ r.length + 1 ∧ (begins ((c :: r).take 2)).2 = 2
    · rw [if_pos b, if_pos ⟨by omega, b.1, b.2⟩]
    · rw [if_neg b, if_neg (fun h => hoth 3 (by omega) h.1 (by omega) h.2), if_neg (fun h => hoth 4 (by omega) h.1 (by omega) h.2), if_neg (fun h => b ⟨h.2.1, h.2.2⟩)]
  · rw [if_neg (fun h => hoth 2 (by omega) h.1 (by omega) h.2)]
    by_cases a3 : n = 3
    · subst a3
      by_cases b : 3 ≤ r.length + 1 ∧ (begins ((c :: r).take 3)).2 = 3
      · rw [if_pos b, if_pos ⟨by omega, b.1, b.2⟩]
      · rw [if_neg b, if_neg (fun h => hoth 4 (by omega) h.1 (by omega) h.2), if_neg (fun h => b ⟨h.2.1, h.2.2⟩)]
    · rw [if_neg (fun h => hoth 3 (by omega) h.1 (by omega) h.2)]
      by_cases a4 : n = 4
      · subst a4
        by_cases b : 4 ≤ r.length + 1 ∧ (begins ((c :: r).take 4)).2 = 4
        · rw [if_pos b, if_pos ⟨by omega, b.1, b.2⟩]
        · rw [if_neg b, if_neg (fun h => b ⟨h.2.1, h.2.2⟩)]
      · rw [if_neg (fun h => hoth 4 (by omega) h.1 (by omega) h.2), if_neg (by omega)]
/-- what the reference must answer where the model decodes. -/
def Agree (s : Str) : Prop := ((dec s).1 = 65533 ∧ (dec s).2 = 1 ∧ (refAt s).2 = 0) ∨ (¬ ((dec s).1 = 65533 ∧ (dec s).2 = 1) ∧ refAt s = dec s)
theorem agree_low (c : UInt8) (r : Str) (hc : c.toNat < 128) : Agree (c :: r) := by
  have h1 : (c < 128) ↔ c.toNat < 128 := lt8 c 128 (by omega)
  have hd : dec (c :: r) = (c.toNat, 1) := by
    unfold dec
    simp only [List.getD_cons_zero]
    rw [if_pos hc]
  have hb : begins [c] = (c.toNat, 1) := by
    unfold begins
    simp only [and_true, h1, hc, if_true]
  refine .inr ⟨by rw [hd]; simp only; omega, ?_⟩
  rw [hd]
  unfold refAt
  rw [show (c :: r).take 1 = [c] from rfl, hb, if_pos ⟨by simp, rfl⟩]
theorem agree_none (c : UInt8) (r : Str) (hc : 128 ≤ c.toNat) (h : c.toNat < 192 ∨ 248 ≤ c.toNat) : Agree (c :: r) := by
  have hlt : c.toNat < 256 := c.toNat_lt
  have hd : dec (c :: r) = (65533, 1) := by
    unfold dec
    simp only [List.getD_cons_zero]
    have e1 : (c.toNat / 32 == 6) = false := by simp; omega
    have e2 : (c.toNat / 16 == 14) = false := by simp; omega
    have e3 : (c.toNat / 8 == 30) = false := by simp; omega
    rw [if_neg (by omega), e1, e2, e3]
    simp
  refine .inl ⟨by rw [hd], by rw [hd], ?_⟩
  rw [refAt_row c r 0 (by omega) (by rw [row_none _ h]) (.inr rfl) (by omega), if_neg (by omega)]
theorem isC_iff (d : UInt8) : (d.toNat / 64 == 2) = isC d := by
  have hlt : d.toNat < 256 := d.toNat_lt
  unfold isC
  rw [Bool.eq_iff_iff]
  simp
  omega
theorem agree_two (c : UInt8) (r : Str) (h : 192 ≤ c.toNat ∧ c.toNat < 224) : Agree (c :: r) := by
  have hrow := row_two _ h
  have href := refAt_row c r 2 (by omega) (by rw [hrow]) (.inl (by omega)) (by omega)
  have e1 : (c.toNat / 32 == 6) = true := by simp; omega
  have e2 : (c.toNat / 16 == 14) = false := by simp; omega
  have e3 : (c.toNat / 8 == 30) = false := by simp; omega
  cases r with
  | nil =>
    have hd : dec [c] = (65533, 1) := by
      unfold dec
      simp only [List.getD_cons_zero]
      rw [if_neg (by omega), e1, e2, e3]
      simp
    exact .inl ⟨by rw [hd], by rw [hd], by rw [href, if_neg (by simp)]⟩
  | cons d q =>
    have hb : begins ((c :: d :: q).take 2) = begins [c, d] := rfl
    have hdec : dec (c :: d :: q) = if isC d then (if 128 ≤ c.toNat % 32 * 64 + d.toNat % 64 then (c.toNat % 32 * 64 + d.toNat % 64, 2) else (65533, 1)) else (65533, 1) := by
      unfold dec
      simp only [List.getD_cons_zero, List.getD_cons_succ, List.length_cons]
      rw [if_neg (by omega), e1, e2, e3, isC_iff]
      simp
    have hval : begins [c, d] = if isC d then (if 128 ≤ c.toNat % 32 * 64 + d.toNat % 64 then (c.toNat % 32 * 64 + d.toNat % 64, 2) else (0, 0)) else (0, 0) := by
      rw [begins_row, hrow, if_neg (by simp), goOn_cons]
      cases hd : isC d with
      | false => rfl
      | true =>
        have hd2 : 128 ≤ d.toNat ∧ d.toNat ≤ 191 := by simpa [isC] using hd
        have hv : 64 * (c.toNat - 192) + (d.toNat - 128) = c.toNat % 32 * 64 + d.toNat % 64 := by omega
        simp only [if_true, goOn, List.length_nil, Nat.zero_add, Nat.sub_self, widen, hv]
        by_cases hge : 128 ≤ c.toNat % 32 * 64 + d.toNat % 64
        · rw [if_pos hge, if_neg (by omega)]
        · rw [if_neg hge, if_pos (by omega)]
    rw [hb] at href
    unfold Agree
    rw [hdec, href, hval]
    cases hd : isC d with
    | false => simp
    | true =>
      have hd2 : 128 ≤ d.toNat ∧ d.toNat ≤ 191 := by simpa [isC] using hd
      by_cases hge : 128 ≤ c.toNat % 32 * 64 + d.toNat % 64
      · simp only [if_true, if_pos hge, List.length_cons]
        rw [if_pos (by simp)]
        exact .inr ⟨fun h => by simp at h, rfl⟩
      · simp only [if_true, if_neg hge]
        rw [if_neg (by simp)]
        exact .inl (by simp)
end Ini
end Go.Proofs.YtegdemnfjmaicaaDoor
namespace Go.Proofs.YtegdemnfjmaicaaDoor
namespace Ini
theorem valid_nat (v : Nat) : Utf8.valid (v : Int) = (decide (v < 55296) || (decide (57344 ≤ v) && decide (v ≤ 1114111))) := by
  unfold Utf8.valid
  rw [Bool.eq_iff_iff]
  simp only [Bool.or_eq_true, Bool.and_eq_true, decide_eq_true_eq]
  omega
theorem agree_three (c : UInt8) (r : Str) (h : 224 ≤ c.toNat ∧ c.toNat < 240) : Agree (c :: r) := by
  have hrow := row_three _ h
  have href := refAt_row c r 3 (by omega) (by rw [hrow]) (.inl (by omega)) (by omega)
  have e1 : (c.toNat / 32 == 6) = false := by simp; omega
  have e2 : (c.toNat / 16 == 14) = true := by simp; omega
  have e3 : (c.toNat / 8 == 30) = false := by simp; omega
  match r, href with
  | [], href =>
    have hd : dec [c] = (65533, 1) := by
      unfold dec
      simp only [List.getD_cons_zero]
      rw [if_neg (by omega), e1, e2, e3]
      simp
    exact .inl ⟨by rw [hd], by rw [hd], by rw [href, if_neg (by simp)]⟩
  | [d], href =>
    have hd : dec [c, d] = (65533, 1) := by
      unfold dec
      simp only [List.getD_cons_zero]
      rw [if_neg (by omega), e1, e2, e3]
      simp
    exact .inl ⟨by rw [hd], by rw [hd], by rw [href, if_neg (by simp)]⟩
  | d :: e :: q, href =>
    have hb : begins ((c :: d :: e :: q).take 3) = begins [c, d, e] := rfl
    obtain ⟨v, hv⟩ : ∃ v, v = c.toNat % 16 * 4096 + d.toNat % 64 * 64 + e.toNat % 64 := ⟨_, rfl⟩
    have hdec : dec (c :: d :: e :: q) = if isC d && isC e then (if 2048 ≤ v ∧ (v < 55296 ∨ 57343 < v) then (v, 3) else (65533, 1)) else (65533, 1) := by
      unfold dec
      simp only [List.getD_cons_zero, List.getD_cons_succ, List.length_cons]
      rw [if_neg (by omega), e1, e2, e3, isC_iff, isC_iff, ← hv]
      have hlen1 : decide (1 < q.length + 1 + 1 + 1) = true := by simp
      have hlen2 : decide (2 < q.length + 1 + 1 + 1) = true := by simp
      rw [hlen1, hlen2]
      simp only [Bool.false_and, Bool.true_and, Bool.false_eq_true, if_false]
      have hv2 : v ≤ 65535 := by omega
      cases hdd : isC d && isC e with
      | false => simp
      | true =>
        simp only [if_true, valid_nat]
        by_cases hg : 2048 ≤ v ∧ (v < 55296 ∨ 57343 < v)
        · rw [if_pos hg, if_pos]
          simp; omega
        · rw [if_neg hg, if_neg]
          simp; omega
    have hval : begins [c, d, e] = if isC d && isC e then (if 2048 ≤ v ∧ (v < 55296 ∨ 57343 < v) then (v, 3) else (0, 0)) else (0, 0) := by
      rw [begins_row, hrow, if_neg (by simp), goOn_cons]
      cases hd : isC d with
      | false => rfl
      | true =>
        rw [if_pos rfl, goOn_cons]
        cases he : isC e with
        | false => rfl
        | true =>
          have hd2 : 128 ≤ d.toNat ∧ d.toNat ≤ 191 := by simpa [isC] using hd
          have he2 : 128 ≤ e.toNat ∧ e.toNat ≤ 191 := by simpa [isC] using he
          have hvv : 64 * (64 * (c.toNat - 224) + (d.toNat - 128)) + (e.toNat - 128) = v := by omega
          have hv2 : v ≤ 65535 := by omega
          simp only [if_true, goOn, List.length_nil, List.length_cons, Nat.zero_add, Nat.sub_self, widen, hvv, Bool.and_self]
          by_cases hg : 2048 ≤ v ∧ (v < 55296 ∨ 57343 < v)
          · rw [if_pos hg, if_neg (by omega)]
          · rw [if_neg hg, if_pos (by omega)]
    rw [hb] at href
    unfold Agree
    rw [hdec, href, hval]
    cases hd : isC d && isC e with
    | false => simp
    | true =>
      by_cases hg : 2048 ≤ v ∧ (v < 55296 ∨ 57343 < v)
      · simp only [if_true, if_pos hg, List.length_cons]
        rw [if_pos (by simp)]
        exact .inr ⟨fun h => by simp at h, rfl⟩
      · simp only [if_true, if_neg hg]
        rw [if_neg (by simp)]
        exact .inl (by simp)
theorem agree_four (c : UInt8) (r : Str) (h : 240 ≤ c.toNat ∧ c.toNat < 248) : Agree (c :: r) := by
  have hrow := row_four _ h
  have href := refAt_row c r 4 (by omega) (by rw [hrow]) (.inl (by omega)) (by omega)
  have e1 : (c.toNat / 32 == 6) = false := by simp; omega
  have e2 : (c.toNat / 16 == 14) = false := by simp; omega
  have e3 : (c.toNat / 8 == 30) = true := by simp; omega
  have short : r.length < 3 → Agree (c :: r) := by
    intro hl
    have hd : dec (c :: r) = (65533, 1) := by
      unfold dec
      simp only [List.getD_cons_zero, List.length_cons]
      rw [if_neg (by omega), e1, e2, e3]
      have h3 : decide (3 < r.length + 1) = false := by simp; omega
      rw [h3]
      simp
    exact .inl ⟨by rw [hd], by rw [hd], by rw [href, if_neg (by omega)]⟩
  match r, href, short with
  | [], _, short => exact short (by simp)
  | [_], _, short => exact short (by simp)
  | [_, _], _, short => exact short (by simp)
  | d :: e :: f :: q, href, _ =>
    have hb : begins ((c :: d :: e :: f :: q).take 4) = begins [c, d, e, f] := rfl
    obtain ⟨v, hv⟩ : ∃ v, v = c.toNat % 8 * 262144 + d.toNat % 64 * 4096 + e.toNat % 64 * 64 + f.toNat % 64 := ⟨_, rfl⟩
    have hdec : dec (c :: d :: e :: f :: q) = if isC d && isC e && isC f then (if 65536 ≤ v ∧ v ≤ 1114111 then (v, 4) else (65533, 1)) else (65533, 1) := by
      unfold dec
      simp only [List.getD_cons_zero, List.getD_cons_succ, List.length_cons]
      rw [if_neg (by omega), e1, e2, e3, isC_iff, isC_iff, isC_iff, ← hv]
      have hlen1 : decide (1 < q.length + 1 + 1 + 1 + 1) = true := by simp
      have hlen2 : decide (2 < q.length + 1 + 1 + 1 + 1) = true := by simp
      have hlen3 : decide (3 < q.length + 1 + 1 + 1 + 1) = true := by simp
      rw [hlen1, hlen2, hlen3]
      simp only [Bool.false_and, Bool.true_and, Bool.false_eq_true, if_false]
      cases hdd : isC d && isC e && isC f with
      | false => simp
      | true =>
        simp only [if_true, valid_nat]
        by_cases hg : 65536 ≤ v ∧ v ≤ 1114111
        · rw [if_pos hg, if_pos]
          simp; omega
        · rw [if_neg hg, if_neg]
          simp; omega
    have hval : begins [c, d, e, f] = if isC d && isC e && isC f then (if 65536 ≤ v ∧ v ≤ 1114111 then (v, 4) else (0, 0)) else (0, 0) := by
      rw [begins_row, hrow, if_neg (by simp), goOn_cons]
      cases hd : isC d with
      | false => rfl
      | true =>
        rw [if_pos rfl, goOn_cons]
        cases he : isC e with
        | false => rfl
        | true =>
          rw [if_pos rfl, goOn_cons]
          cases hf : isC f with
          | false => rfl
          | true =>
            have hd2 : 128 ≤ d.toNat ∧ d.toNat ≤ 191 := by simpa [isC] using hd
            have he2 : 128 ≤ e.toNat ∧ e.toNat ≤ 191 := by simpa [isC] using he
            have hf2 : 128 ≤ f.toNat ∧ f.toNat ≤ 191 := by simpa [isC] using hf
            have hvv : 64 * (64 * (64 * (c.toNat - 240) + (d.toNat - 128)) + (e.toNat - 128)) + (f.toNat - 128) = v := by omega
            simp only [if_true, goOn, List.length_nil, List.length_cons, Nat.zero_add, Nat.sub_self, widen, hvv, Bool.and_self]
            by_cases hg : 65536 ≤ v ∧ v ≤ 1114111
            · rw [if_pos hg, if_neg (by omega)]
            · rw [if_neg hg, if_pos (by omega)]
    rw [hb] at href
    unfold Agree
    rw [hdec, href, hval]
    cases hd : isC d && isC e && isC f with
    | false => simp
    | true =>
      by_cases hg : 65536 ≤ v ∧ v ≤ 1114111
      · simp only [if_true, if_pos hg, List.length_cons]
        rw [if_pos (by simp)]
        exact .inr ⟨fun h => by simp at h, rfl⟩
      · simp only [if_true, if_neg hg]
        rw [if_neg (by simp)]
        exact .inl (by simp)
/-- the reference reads what the model decodes. -/
theorem agree (s : Str) (h : s ≠ []) : Agree s := by
  cases s with
  | nil => exact absurd rfl h
  | cons c r =>
    have hlt : c.toNat < 256 := c.toNat_lt
    by_cases h1 : c.toNat < 128
    · exact agree_low c r h1
    · by_cases h2 : c.toNat < 192 ∨ 248 ≤ c.toNat
      · exact agree_none c r (by omega) h2
      · by_cases h3 : c.toNat < 224
        · exact agree_two c r (by omega)
        · by_cases h4 : c.toNat < 240
          · exact agree_three c r (by omega)
          · exact agree_four c r (by omega)
end Ini
end Go.Proofs.YtegdemnfjmaicaaDoor
namespace Go.Proofs.YtegdemnfjmaicaaDoor
namespace Ini
def refBadU : Nat → Str → Nat → Option Nat
  | 0, _, _ => none
  | n + 1, r, i => match r with
    | [] => none
    | _ :: _ => if (refAt r).2 = 0 then some i else refBadU n (r.drop (refAt r).2) (i + (refAt r).2)
theorem refBad_eq (n : Nat) (r : Str) (i : Nat) : refBadU n r i = badU n r i := by
  induction n generalizing r i with
  | zero => rfl
  | succ n ih =>
    cases r with
    | nil => rfl
    | cons c q =>
      unfold refBadU badU
      have hw := dec_width (c :: q)
      rcases agree (c :: q) (by simp) with ⟨h1, h2, h3⟩ | ⟨h1, h2⟩
      · simp only
        rw [if_pos h3, if_pos ⟨h1, h2⟩]
      · simp only
        rw [if_neg h1, h2, if_neg (by omega)]
        exact ih _ _
end Ini
end Go.Proofs.YtegdemnfjmaicaaDoor

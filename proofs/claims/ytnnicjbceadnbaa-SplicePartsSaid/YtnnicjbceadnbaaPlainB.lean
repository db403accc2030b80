/- Bounds on pieces: plain, no program in sight. -/
import Derived.Test.YtnnicjbceadnbaaPlain
namespace Go.Proofs.Ytnnicjbceadnbaa
namespace Sp
/-- a piece of a source with n bytes. -/
def Pok (n : Int) (p : Ed) : Prop := Okp p ∧ (p.f < 0 ∨ p.f + p.t ≤ n) ∧ -1 ≤ p.f ∧ p.f ≤ n ∧ p.t ≤ 1099511627776
/-- an edit of a source with n bytes. -/
def Eok (n : Int) (x : Ed) : Prop := 0 ≤ x.f ∧ x.f ≤ x.t ∧ x.t ≤ n
theorem chk_ok (n : Int) (l : List Ed) (e i : Int) (h : chk n e i l = 0) : ∀ x ∈ l, Eok n x := by
  induction l generalizing e i with
  | nil => intro x hx; cases hx
  | cons y r ih =>
    unfold chk at h
    split at h
    · simp at h
    · split at h
      · simp at h
      · intro x hx
        rcases List.mem_cons.1 hx with rfl | hx
        · unfold Eok; omega
        · exact ih _ _ h x hx
theorem bit_ok (n fr to a : Int) (p : Ed) (h : Pok n p) : ∀ q ∈ bit fr to a p, Pok n q := by
  intro q hq
  unfold bit at hq
  obtain ⟨⟨h1, h2⟩, h3, h4, h5, h6⟩ := h
  split at hq
  · rename_i hm
    rw [List.mem_singleton] at hq
    subst hq
    split
    · rename_i hf
      have := h2 hf
      refine ⟨⟨by show 0 ≤ min to (a + p.t) - max fr a; omega, fun _ => ?_⟩, .inl hf, h4, h5, by show min to (a + p.t) - max fr a ≤ _; omega⟩
      show min to (a + p.t) - max fr a = ((((p.s.drop (max fr a - a).toNat).take (min to (a + p.t) - max fr a).toNat).length : Nat) : Int)
      rw [List.length_take, List.length_drop]
      omega
    · rename_i hf
      refine ⟨⟨by show 0 ≤ min to (a + p.t) - max fr a; omega, fun hh => ?_⟩, .inr ?_, ?_, ?_, by show min to (a + p.t) - max fr a ≤ _; omega⟩
      · change p.f + (max fr a - a) < 0 at hh; omega
      · show p.f + (max fr a - a) + (min to (a + p.t) - max fr a) ≤ n; omega
      · show -1 ≤ p.f + (max fr a - a); omega
      · show p.f + (max fr a - a) ≤ n; omega
  · cases hq
theorem part_ok (n fr to a : Int) (l : List Ed) (h : ∀ p ∈ l, Pok n p) : ∀ q ∈ part fr to a l, Pok n q := by
  induction l generalizing a with
  | nil => intro q hq; cases hq
  | cons p r ih =>
    intro q hq
    rw [part, List.mem_append] at hq
    rcases hq with hq | hq
    · exact bit_ok n fr to a p (h p (by simp)) q hq
    · exact ih (a + p.t) (fun p hp => h p (by simp [hp])) q hq
theorem added_ok (n : Int) (hn : 0 ≤ n) (s : List UInt8) (hs : s.length ≤ 1099511627776) : ∀ q ∈ added s, Pok n q := by
  intro q hq
  unfold added at hq
  split at hq
  · cases hq
  · rw [List.mem_singleton] at hq
    subst hq
    exact ⟨⟨by show (0 : Int) ≤ s.length; omega, fun _ => rfl⟩, .inl (by show (-1 : Int) < 0; omega), by show (-1 : Int) ≤ -1; omega, by show (-1 : Int) ≤ n; omega, by show (s.length : Int) ≤ _; omega⟩
theorem kept_ok (n : Int) (hn : 0 ≤ n) (hn2 : n ≤ 1099511627776) : ∀ q ∈ kept 0 n, Pok n q := by
  intro q hq
  unfold kept at hq
  split at hq
  · cases hq
  · rw [List.mem_singleton] at hq
    subst hq
    exact ⟨⟨by show 0 ≤ n - 0; omega, fun h => by change (0 : Int) < 0 at h; omega⟩, .inr (by show 0 + (n - 0) ≤ n; omega), by show (-1 : Int) ≤ 0; omega, hn, by show n - 0 ≤ _; omega⟩
theorem edited_ok (n : Int) (hn : 0 ≤ n) (l : List Ed) (m a : Int) (es : List Ed) (h : ∀ p ∈ l, Pok n p) (hs : ∀ x ∈ es, x.s.length ≤ 1099511627776) : ∀ q ∈ edited l m a es, Pok n q := by
  induction es generalizing a with
  | nil => exact part_ok n a m 0 l h
  | cons x r ih =>
    intro q hq
    rw [edited, List.mem_append, List.mem_append] at hq
    rcases hq with (hq | hq) | hq
    · exact part_ok n a x.f 0 l h q hq
    · exact added_ok n hn x.s (hs x (by simp)) q hq
    · exact ih x.t (fun y hy => hs y (by simp [hy])) q hq
theorem size_append (l r : List Ed) : size (l ++ r) = size l + size r := by
  induction l with
  | nil => simp [size]
  | cons q l ih => simp only [List.cons_append, size, ih]; omega
theorem bit_size (fr to a : Int) (p : Ed) (h : 0 ≤ p.t) : size (bit fr to a p) ≤ p.t ∧ txt (bit fr to a p) ≤ p.s.length := by
  unfold bit
  split
  · split
    · refine ⟨by show min to (a + p.t) - max fr a + 0 ≤ p.t; omega, ?_⟩
      show ((p.s.drop (max fr a - a).toNat).take (min to (a + p.t) - max fr a).toNat).length + 0 ≤ _
      rw [List.length_take, List.length_drop]
      omega
    · exact ⟨by show min to (a + p.t) - max fr a + 0 ≤ p.t; omega, by simp [txt]⟩
  · exact ⟨by simpa [size] using h, by simp [txt]⟩
theorem part_size (fr to a : Int) (l : List Ed) (h : ∀ p ∈ l, 0 ≤ p.t) : size (part fr to a l) ≤ size l ∧ txt (part fr to a l) ≤ txt l := by
  induction l generalizing a with
  | nil => simp [part, size, txt]
  | cons p r ih =>
    have h1 := ih (a + p.t) (fun p hp => h p (by simp [hp]))
    have h2 := bit_size fr to a p (h p (by simp))
    rw [part, size_append, txt_append]
    simp only [size, txt]
    omega
theorem added_size (s : List UInt8) : size (added s) = s.length ∧ txt (added s) = s.length := by
  unfold added; split
  · rename_i h; simp [h, size, txt]
  · simp [size, txt]
theorem edited_size (l : List Ed) (m a : Int) (es : List Ed) (h : ∀ p ∈ l, 0 ≤ p.t) :
    size (edited l m a es) ≤ (es.length + 1) * size l + txt es ∧ txt (edited l m a es) ≤ (es.length + 1) * txt l + txt es ∧ (edited l m a es).length ≤ es.length * (l.length + 1) + l.length := by
  induction es generalizing a with
  | nil =>
    have h1 := part_size a m 0 l h
    have h2 := part_len a m 0 l
    simp only [edited, txt, List.length_nil]
    omega
  | cons x r ih =>
    have h1 := part_size a x.f 0 l h
    have h2 := part_len a x.f 0 l
    have h3 := added_size x.s
    have h4 := added_len x.s
    obtain ⟨i1, i2, i3⟩ := ih x.t
    rw [edited, size_append, size_append, txt_append, txt_append, List.length_append, List.length_append]
    simp only [txt, List.length_cons]
    have e1 : (((r.length + 1 : Nat) : Int) + 1) * size l = ((r.length : Int) + 1) * size l + size l := by
      rw [Int.natCast_add, Int.add_mul ((r.length : Int) + ((1 : Nat) : Int)) 1]; simp
    have e2 : (r.length + 1 + 1) * txt l = (r.length + 1) * txt l + txt l := by rw [Nat.add_mul (r.length + 1) 1, Nat.one_mul]
    have e3 : (r.length + 1) * (l.length + 1) = r.length * (l.length + 1) + (l.length + 1) := by rw [Nat.add_mul r.length 1, Nat.one_mul]
    refine ⟨?_, ?_, ?_⟩
    · rw [e1]; omega
    · rw [e2]; omega
    · rw [e3]; omega
theorem kept_size (n : Int) (hn : 0 ≤ n) : size (kept 0 n) = n ∧ txt (kept 0 n) = 0 ∧ (kept 0 n).length ≤ 1 := by
  unfold kept; split
  · rename_i h; subst h; simp [size, txt]
  · simp [size, txt]
end Sp
end Go.Proofs.Ytnnicjbceadnbaa

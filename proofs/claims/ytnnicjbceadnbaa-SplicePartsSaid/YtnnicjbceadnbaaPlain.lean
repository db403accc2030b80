/- Lists of text edits: plain definitions, no program in sight. -/
namespace Go.Proofs.Ytnnicjbceadnbaa
namespace Sp
/-- an edit (from, to, text) or a piece (from, size, text). -/
structure Ed where
  f : Int
  t : Int
  s : List UInt8
deriving DecidableEq

/-- the loop of Check: from what end and insertion are. -/
def chk (n : Int) : Int → Int → List Ed → Int
  | _, _, [] => 0
  | e, i, x :: r =>
    if x.f < 0 ∨ x.t < x.f ∨ n < x.t then 2
    else if x.f < e ∨ x.f = x.t ∧ x.f = i then 17
    else chk n x.t (if x.f = x.t then x.f else -1) r

def kept (f t : Int) : List Ed := if f = t then [] else [⟨f, t - f, []⟩]
def added (s : List UInt8) : List Ed := if s = [] then [] else [⟨-1, s.length, s⟩]

/-- a piece that may be cut. -/
def Okp (p : Ed) : Prop := 0 ≤ p.t ∧ (p.f < 0 → p.t = p.s.length)
/-- the part of one piece that lies at 'at' between two offsets. -/
def bit (fr to a : Int) (p : Ed) : List Ed :=
  if max fr a < min to (a + p.t) then
    [if p.f < 0 then ⟨p.f, min to (a + p.t) - max fr a, (p.s.drop (max fr a - a).toNat).take (min to (a + p.t) - max fr a).toNat⟩ else ⟨p.f + (max fr a - a), min to (a + p.t) - max fr a, []⟩]
  else []
def part (fr to : Int) : Int → List Ed → List Ed
  | _, [] => []
  | a, p :: r => bit fr to a p ++ part fr to (a + p.t) r
def size : List Ed → Int
  | [] => 0
  | p :: r => p.t + size r
def edited (l : List Ed) (n : Int) : Int → List Ed → List Ed
  | a, [] => part a n 0 l
  | a, x :: r => part a x.f 0 l ++ added x.s ++ edited l n x.t r
def shut (a n : Int) (s : List UInt8) : List Ed := if a < n ∨ s ≠ [] then [⟨a, n, s⟩] else []
def normal (n : Int) : Int → List UInt8 → List Ed → List Ed
  | a, s, [] => shut a n s
  | a, s, p :: r => if p.f < 0 then normal n a (s ++ p.s) r else shut a p.f s ++ normal n (p.f + p.t) [] r
def bytes (src : List UInt8) (p : Ed) : List UInt8 := if p.f < 0 then p.s else (src.drop p.f.toNat).take p.t.toNat
def asm (src : List UInt8) (l : List Ed) : List UInt8 := l.flatMap (bytes src)

theorem bit_len (fr to a : Int) (p : Ed) : (bit fr to a p).length ≤ 1 := by unfold bit; split <;> simp
theorem part_len (fr to a : Int) (l : List Ed) : (part fr to a l).length ≤ l.length := by
  induction l generalizing a with
  | nil => simp [part]
  | cons p r ih => have := ih (a + p.t); have := bit_len fr to a p; simp [part]; omega
theorem part_snoc (fr to a : Int) (l : List Ed) (p : Ed) : part fr to a (l ++ [p]) = part fr to a l ++ bit fr to (a + size l) p := by
  induction l generalizing a with
  | nil => simp [part, size]
  | cons q r ih => simp only [List.cons_append, part, ih, size, List.append_assoc]; rw [show a + q.t + size r = a + (q.t + size r) from by omega]
theorem size_snoc (l : List Ed) (p : Ed) : size (l ++ [p]) = size l + p.t := by
  induction l with
  | nil => simp [size]
  | cons q r ih => simp only [List.cons_append, size, ih]; omega
theorem take_snoc {α : Type} (l : List α) (k : Nat) (h : k < l.length) : l.take (k + 1) = l.take k ++ [l[k]] := by
  rw [List.take_succ_eq_append_getElem h]
theorem size_nonneg (l : List Ed) (h : ∀ p ∈ l, 0 ≤ p.t) : 0 ≤ size l := by
  induction l with
  | nil => simp [size]
  | cons q r ih => have := h q (by simp); have := ih (fun p hp => h p (by simp [hp])); simp only [size]; omega
theorem size_take_le (l : List Ed) (k : Nat) (h : ∀ p ∈ l, 0 ≤ p.t) : size (l.take k) ≤ size l := by
  induction l generalizing k with
  | nil => simp [size]
  | cons q r ih =>
    cases k with
    | zero => have := size_nonneg (q :: r) h; simpa [size] using this
    | succ k => have := ih k (fun p hp => h p (by simp [hp])); simp only [List.take_succ_cons, size]; omega
def edTo (l : List Ed) : Int → List Ed → List Ed
  | _, [] => []
  | a, x :: r => part a x.f 0 l ++ added x.s ++ edTo l x.t r
def atTo : Int → List Ed → Int
  | a, [] => a
  | _, x :: r => atTo x.t r
theorem edited_eq (l : List Ed) (n a : Int) (es : List Ed) : edited l n a es = edTo l a es ++ part (atTo a es) n 0 l := by
  induction es generalizing a with
  | nil => simp [edited, edTo, atTo]
  | cons x r ih => simp [edited, edTo, atTo, ih]
theorem edTo_snoc (l : List Ed) (a : Int) (es : List Ed) (x : Ed) : edTo l a (es ++ [x]) = edTo l a es ++ part (atTo a es) x.f 0 l ++ added x.s := by
  induction es generalizing a with
  | nil => simp [edTo, atTo]
  | cons y r ih => simp [edTo, atTo, ih]
theorem atTo_snoc (a : Int) (es : List Ed) (x : Ed) : atTo a (es ++ [x]) = x.t := by
  induction es generalizing a with
  | nil => rfl
  | cons y r ih => simp [atTo, ih]
theorem atTo_mem (a : Int) (es : List Ed) (P : Int → Prop) (h0 : P a) (h : ∀ x ∈ es, P x.t) : P (atTo a es) := by
  induction es generalizing a with
  | nil => exact h0
  | cons y r ih => exact ih y.t (h y (by simp)) (fun x hx => h x (by simp [hx]))
theorem added_len (s : List UInt8) : (added s).length ≤ 1 := by unfold added; split <;> simp
theorem edTo_len (l : List Ed) (a : Int) (es : List Ed) : (edTo l a es).length ≤ es.length * (l.length + 1) := by
  induction es generalizing a with
  | nil => simp [edTo]
  | cons y r ih =>
    have := ih y.t
    have h1 := part_len a y.f 0 l
    have h2 := added_len y.s
    simp only [edTo, List.length_append, List.length_cons, Nat.add_mul, Nat.one_mul]
    omega
theorem bytes_len (src : List UInt8) (p : Ed) (h : Okp p) (hb : p.f < 0 ∨ p.f + p.t ≤ src.length) : ((bytes src p).length : Int) = p.t := by
  unfold bytes
  have h1 := h.1
  split
  · rename_i hf; have := h.2 hf; omega
  · rw [List.length_take, List.length_drop]; omega
theorem asm_len (src : List UInt8) (l : List Ed) (h : ∀ p ∈ l, Okp p ∧ (p.f < 0 ∨ p.f + p.t ≤ src.length)) : ((asm src l).length : Int) = size l := by
  induction l with
  | nil => simp [asm, size]
  | cons p r ih =>
    have h1 := ih (fun q hq => h q (by simp [hq]))
    have h2 := bytes_len src p (h p (by simp)).1 (h p (by simp)).2
    simp only [asm, List.flatMap_cons, List.length_append, size] at *
    omega
theorem asm_snoc (src : List UInt8) (l : List Ed) (p : Ed) : asm src (l ++ [p]) = asm src l ++ bytes src p := by simp [asm]
def txt : List Ed → Nat
  | [] => 0
  | p :: r => p.s.length + txt r
theorem txt_append (l r : List Ed) : txt (l ++ r) = txt l + txt r := by
  induction l with
  | nil => simp [txt]
  | cons q l ih => simp only [List.cons_append, txt, ih]; omega
theorem txt_snoc (l : List Ed) (p : Ed) : txt (l ++ [p]) = txt l + p.s.length := by rw [txt_append]; simp [txt]
theorem txt_take_le (l : List Ed) (k : Nat) : txt (l.take k) ≤ txt l := by
  have := txt_append (l.take k) (l.drop k)
  rw [List.take_append_drop] at this
  omega
theorem shut_len (a n : Int) (s : List UInt8) : (shut a n s).length ≤ 1 := by unfold shut; split <;> simp
end Sp
end Go.Proofs.Ytnnicjbceadnbaa

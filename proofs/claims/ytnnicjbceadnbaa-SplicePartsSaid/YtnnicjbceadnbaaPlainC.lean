/- Cells: the reference's edited sources. Plain, no program in sight. -/
import Derived.Test.YtnnicjbceadnbaaPlain
namespace Go.Proofs.Ytnnicjbceadnbaa
namespace Sp
/-- a byte of an edited source with its offset in the source, -1 for a new byte. -/
structure Ce where
  o : Int
  b : UInt8
deriving DecidableEq
def cellsFrom : Nat → List UInt8 → List Ce
  | _, [] => []
  | k, b :: r => ⟨k, b⟩ :: cellsFrom (k + 1) r
def cells (s : List UInt8) : List Ce := cellsFrom 0 s
theorem cellsFrom_snoc (k : Nat) (l : List UInt8) (b : UInt8) : cellsFrom k (l ++ [b]) = cellsFrom k l ++ [⟨k + l.length, b⟩] := by
  induction l generalizing k with
  | nil => simp [cellsFrom]
  | cons c r ih => simp only [List.cons_append, cellsFrom, ih, List.length_cons]; congr 3; simp; omega
theorem cellsFrom_len (k : Nat) (l : List UInt8) : (cellsFrom k l).length = l.length := by
  induction l generalizing k with
  | nil => rfl
  | cons c r ih => simp [cellsFrom, ih]
def news (s : List UInt8) : List Ce := s.map fun b => ⟨-1, b⟩
def textOf (c : List Ce) : List UInt8 := c.map (·.b)
def cut (c : List Ce) (f t : Int) : List Ce := (c.drop f.toNat).take (t.toNat - f.toNat)
/-- Splice: from the offset a on. -/
def splTo (c : List Ce) : Int → List Ed → List Ce
  | _, [] => []
  | a, x :: r => cut c a x.f ++ news x.s ++ splTo c x.t r
def spl (c : List Ce) (l : List Ed) : List Ce := splTo c 0 l ++ c.drop (atTo 0 l).toNat
theorem splTo_snoc (c : List Ce) (a : Int) (es : List Ed) (x : Ed) : splTo c a (es ++ [x]) = splTo c a es ++ cut c (atTo a es) x.f ++ news x.s := by
  induction es generalizing a with
  | nil => simp [splTo, atTo]
  | cons y r ih => simp [splTo, atTo, ih]
/-- Edits. -/
def edsGo (n : Int) : Int → List UInt8 → List Ce → List Ed
  | a, s, [] => shut a n s
  | a, s, c :: r => if c.o < 0 then edsGo n a (s ++ [c.b]) r else shut a c.o s ++ edsGo n (c.o + 1) [] r
def eds (n : Int) (c : List Ce) : List Ed := edsGo n 0 [] c
/-- what Check's state is behind an edit. -/
def behind (l : List Ed) (k : Nat) : Int × Int := match k with
  | 0 => (0, -1)
  | j + 1 => match l[j]? with
    | some y => (y.t, if y.f = y.t then y.f else -1)
    | none => (0, -1)
theorem cut_len (c : List Ce) (f t : Int) : (cut c f t).length ≤ c.length := by unfold cut; rw [List.length_take, List.length_drop]; omega
theorem splTo_len (c : List Ce) (a : Int) (es : List Ed) : (splTo c a es).length ≤ es.length * c.length + txt es := by
  induction es generalizing a with
  | nil => simp [splTo]
  | cons x r ih =>
    have h1 := cut_len c a x.f
    have h2 := ih x.t
    have h3 : (news x.s).length = x.s.length := by simp [news]
    simp only [splTo, List.length_append, List.length_cons, Nat.add_mul, Nat.one_mul, txt]
    omega
theorem chk_asc (n : Int) (l : List Ed) (e i : Int) (h : chk n e i l = 0) : ∀ k (hk : k < l.length), atTo e (l.take k) ≤ l[k].f := by
  induction l generalizing e i with
  | nil => intro k hk; simp at hk
  | cons y r ih =>
    unfold chk at h
    split at h
    · simp at h
    · split at h
      · simp at h
      · intro k hk
        cases k with
        | zero => show e ≤ y.f; omega
        | succ k => exact ih _ _ h k (by simpa using hk)
theorem news_take (s : List UInt8) (k : Nat) (hk : k < s.length) : news (s.take (k + 1)) = news (s.take k) ++ [⟨-1, s[k]⟩] := by
  rw [take_snoc s k hk]; simp only [news, List.map_append, List.map_cons, List.map_nil]
end Sp
end Go.Proofs.Ytnnicjbceadnbaa

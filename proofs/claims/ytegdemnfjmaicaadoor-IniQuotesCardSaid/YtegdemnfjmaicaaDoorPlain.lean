/- INI: the parser, plain. A source is a list of bytes; every reader works on what is left of a line. -/
namespace Go.Proofs.YtegdemnfjmaicaaDoor
namespace Ini
abbrev Str := List UInt8
/-- a blank. -/
def isB (c : UInt8) : Bool := c == 32 || c == 9
/-- how many blanks stand ahead. -/
def nB (r : Str) : Nat := (r.takeWhile isB).length
/-- how long a text is without the blanks at its end. -/
def nT (r : Str) : Nat := (r.reverse.dropWhile isB).length
def isHex (c : UInt8) : Bool := (48 ≤ c && c ≤ 57) || (97 ≤ c && c ≤ 102) || (65 ≤ c && c ≤ 70)
def hexOf (c : UInt8) : Nat := if c ≤ 57 then c.toNat - 48 else if 97 ≤ c then c.toNat - 87 else c.toNat - 55
def hexVal (l : Str) : Nat := l.foldl (fun n c => 16 * n + hexOf c) 0
def isScalar (n : Nat) : Bool := decide (n ≤ 1114111) && !(decide (55296 ≤ n) && decide (n ≤ 57343))
/-- UTF-8. -/
def enc (n : Nat) : Str :=
  if n < 128 then [UInt8.ofNat n]
  else if n < 2048 then [UInt8.ofNat (192 + n / 64), UInt8.ofNat (128 + n % 64)]
  else if n < 65536 then [UInt8.ofNat (224 + n / 4096), UInt8.ofNat (128 + n / 64 % 64), UInt8.ofNat (128 + n % 64)]
  else [UInt8.ofNat (240 + n / 262144), UInt8.ofNat (128 + n / 4096 % 64), UInt8.ofNat (128 + n / 64 % 64), UInt8.ofNat (128 + n % 64)]
/-- a reader's answer: an offset and an error, or what it read. -/
inductive Res (α : Type) where
  | err (a : Nat) (e : Nat)
  | ok (x : α)
/-- an escape; r begins with its backslash. -/
def esc (r : Str) : Res (Str × Nat) :=
  match r.drop 1 with
  | [] => .err 0 4
  | c :: q =>
    if c = 92 ∨ c = 34 then .ok ([c], 2)
    else if c = 110 then .ok ([10], 2)
    else if c = 114 then .ok ([13], 2)
    else if c = 116 then .ok ([9], 2)
    else if c = 117 then
      match q with
      | [] => .err 0 4
      | b :: h =>
        if b ≠ 123 then .err 0 4
        else
          let ds := (h.take 6).takeWhile isHex
          match ds, h.drop ds.length with
          | [], _ => .err 0 4
          | _ :: _, [] => .err 0 4
          | _ :: _, z :: _ => if z ≠ 125 then .err 0 4 else if isScalar (hexVal ds) then .ok (enc (hexVal ds), ds.length + 4) else .err 0 11
    else .err 0 4
/-- a quoted text behind its first quote; at: where r stands. -/
def qgo : Nat → Str → Nat → Str → Res (Str × Nat)
  | 0, _, a, _ => .err a 4
  | n + 1, r, a, acc =>
    match r with
    | [] => .err a 4
    | c :: q =>
      if c = 34 then .ok (acc, a + 1)
      else if c ≠ 92 then qgo n q (a + 1) (acc ++ [c])
      else match esc r with
        | .err _ e => .err a e
        | .ok (t, k) => qgo n (r.drop k) (a + k) (acc ++ t)
def quoted (r : Str) (a : Nat) : Res (Str × Nat) := qgo (r.length + 1) (r.drop 1) (a + 1) []
/-- a name that ends before a mark: its text, its end, the offset behind the mark. -/
def name (r : Str) (a : Nat) (mark : UInt8) : Res (Str × Nat × Nat) :=
  if r.head? = some 34 then
    match quoted r a with
    | .err b e => .err b e
    | .ok (t, i) =>
      let r2 := r.drop (i - a)
      let k := i + nB r2
      if (r2.drop (nB r2)).head? = some mark then .ok (t, i, k + 1) else .err k 4
  else
    let w := r.takeWhile (· ≠ mark)
    if nT w = 0 then .err a 4
    else if w.length = r.length then .err (a + r.length) 4
    else .ok (w.take (nT w), a + nT w, a + w.length + 1)
structure Nd where
  kind : Nat
  text : Str
  keys : List Nat
  items : List Nat
deriving DecidableEq
structure Sp where
  node : Nat
  parent : Int
  entry : Nat
  from_ : Nat
  to_ : Nat
  keyFrom : Nat
  keyTo : Nat
  whole : Bool
deriving DecidableEq
structure Note where
  from_ : Nat
  to_ : Nat
  text : Str
deriving DecidableEq
/-- the parser's state: the document, and the open section's node and span. -/
structure St where
  nodes : List Nd
  spans : List Sp
  notes : List Note
  node : Nat
  span : Nat
deriving DecidableEq
def textAt (nodes : List Nd) (k : Nat) : Option Str := (nodes[k]?).map (·.text)
def keyIn (nodes : List Nd) (node : Nat) (key : Str) : Bool := match nodes[node]? with
  | some m => m.keys.any (fun k => textAt nodes k == some key)
  | none => false
/-- one more entry of a node. -/
def add (st : St) (node span : Nat) (key : Str) (n : Nd) (s : Sp) : Res St :=
  if keyIn st.nodes node key then .err s.keyFrom 8
  else if st.nodes.length + 2 > 4096 then .err s.keyFrom 7
  else
    let k := st.nodes.length
    match st.nodes[node]? with
    | none => .err 0 0
    | some m => .ok { st with
        nodes := (st.nodes ++ [⟨5, key, [], []⟩, n]).set node { m with keys := m.keys ++ [k], items := m.items ++ [k + 1] }
        spans := st.spans ++ [{ s with node := k + 1, parent := span, entry := m.items.length }] }
/-- a section's line; r begins with its bracket. -/
def header (st : St) (r : Str) (a : Nat) : Res St :=
  let r1 := r.drop 1
  let b := a + 1 + nB r1
  match name (r1.drop (nB r1)) b 93 with
  | .err x e => .err x e
  | .ok (t, end_, i) =>
    let r2 := r.drop (i - a)
    if nB r2 < r2.length then .err (i + nB r2) 4
    else match add st 0 0 t ⟨10, [], [], []⟩ ⟨0, 0, 0, a, i, b, end_, false⟩ with
      | .err x e => .err x e
      | .ok st' => .ok { st' with node := st'.nodes.length - 1, span := st'.spans.length - 1 }
/-- an entry's value and its span's end. -/
def value (r : Str) (a : Nat) : Res (Str × Nat) :=
  if r.head? = some 34 then
    match quoted r a with
    | .err x e => .err x e
    | .ok (t, i) =>
      let r2 := r.drop (i - a)
      if nB r2 < r2.length then .err (i + nB r2) 4 else .ok (t, i)
  else .ok (r.take (nT r), a + nT r)
def setTo (spans : List Sp) (k to : Nat) : List Sp := match spans[k]? with
  | some s => spans.set k { s with to_ := to }
  | none => spans
def entry (st : St) (r : Str) (a : Nat) : Res St :=
  match name r a 61 with
  | .err x e => .err x e
  | .ok (key, end_, i) =>
    let r2 := r.drop (i - a)
    let b := i + nB r2
    match value (r2.drop (nB r2)) b with
    | .err x e => .err x e
    | .ok (t, to) =>
      match add st st.node st.span key ⟨5, t, [], []⟩ ⟨0, 0, 0, b, to, a, end_, true⟩ with
      | .err x e => .err x e
      | .ok st' => if st.span > 0 then .ok { st' with spans := setTo st'.spans st.span to } else .ok st'
/-- one line, which stands at a. -/
def line (st : St) (r : Str) (a : Nat) : Res St :=
  let q := r.drop (nB r)
  let b := a + nB r
  match q with
  | [] => .ok st
  | c :: _ =>
    if c = 59 ∨ c = 35 then .ok { st with notes := st.notes ++ [⟨b, a + r.length, q⟩] }
    else if c = 91 then header st q b
    else entry st q b
/-- the lines of a source; a line that ends loses a carriage return. -/
def cr (l : Str) : Str := if l.getLast? = some 13 then l.dropLast else l
def splitAt : Str → Str × Option Str
  | [] => ([], none)
  | c :: r => if c = 10 then ([], some r) else ((c :: (splitAt r).1), (splitAt r).2)
def lines : Nat → St → Str → Nat → Res St
  | 0, st, _, _ => .ok st
  | n + 1, st, r, a =>
    match splitAt r with
    | (l, none) => line st l a
    | (l, some q) => match line st (cr l) a with
      | .err x e => .err x e
      | .ok st' => lines n st' q (a + l.length + 1)
def start (n : Nat) : St := ⟨[⟨10, [], [], []⟩], [⟨0, -1, 0, 0, n, 0, 0, false⟩], [], 0, 0⟩
/-- the first control character that does not belong to a line's end. -/
def ctl : Str → Nat → Option Nat
  | [], _ => none
  | c :: r, i => if c < 32 && c != 9 && !(c == 10 || (c == 13 && r.head? == some 10)) then some i else ctl r (i + 1)
end Ini
end Go.Proofs.YtegdemnfjmaicaaDoor

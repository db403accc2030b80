/- INI: the parser, plain. A source is a list of bytes; every reader works on what is left of a line. UTF-8 on lists of bytes: plain. A quoted text, step by step: plain. The parser's state, plain: its bounds hold after every line. Sources that are put together: what the plain parser does with them. The lines of a source, plain: as ranges. The plain parser at a source that is moved: every offset moves along; with empty lines and comments around it; its errors: none is number 0, none lies behind the source. The plain parser at a source whose notes are cut out: the same graph, and no note. The spans of values, plain: the bytes of a value's span, as the value of a new entry, are read as the same text. A value's bytes as the value of a new entry: plain. Sources without sections, plain: what they leave, and what two of them leave that are put together. Quoted texts, plain: every text can be written as a quoted name, key or value. The reference's UTF-8 against the model's: plain. The reference's UTF-8 reader against the model's decoder: up to two bytes. The reference's UTF-8 reader against the model's decoder: three and four bytes. The reference's first invalid offset is the program's: plain. -/
import GoSem.Core.Utf8
import Derived.Lib.Bytealg
namespace Go.Proofs.YtegdemnfjmaicaaDoor
namespace Ini
abbrev Str := List UInt8
/-- a blank. -/
def isB (c : UInt8) : Bool := c == 32 || c == 9
/-- how many blanks stand ahead. -/
def nB (r : Str) : Nat := (r.takeWhile isB).length
/-- how long a text is without the blanks at its end. -/
def nT (r : Str) : Nat := (r.reverse.dropWhile isB).length
def isHex (c : UInt8) : Bool := (48 ≤ c && c ≤ 57) || (97 ≤ c && c ≤ 102) || (65 ≤ c && c ≤ 70)
def hexOf (c : UInt8) : Nat := if c ≤ 57 then c.toNat - 48 else if 97 ≤ c then c.toNat - 87 else c.toNat - 55
def hexVal (l : Str) : Nat := l.foldl (fun n c => 16 * n + hexOf c) 0
def isScalar (n : Nat) : Bool := decide (n ≤ 1114111) && !(decide (55296 ≤ n) && decide (n ≤ 57343))
/-- UTF-8. -/
def enc (n : Nat) : Str :=
  if n < 128 then [UInt8.ofNat n]
  else if n < 2048 then [UInt8.ofNat (192 + n / 64), UInt8.ofNat (128 + n % 64)]
  else if n < 65536 then [UInt8.ofNat (224 + n / 4096), UInt8.ofNat (128 + n / 64 % 64), UInt8.ofNat (128 + n % 64)]
  else [UInt8.ofNat (240 + n / 262144), UInt8.ofNat (128 + n / 4096 % 64), UInt8.ofNat (128 + n / 64 % 64), UInt8.ofNat (128 + n % 64)]
/-- a reader's answer: an offset and an error, or what it read. -/
inductive Res (α : Type) where
  | err (a : Nat) (e : Nat)
  | ok (x : α)
/-- an escape; r begins with its backslash. -/
def esc (r : Str) : Res (Str × Nat) :=
  match r.drop 1 with
  | [] => .err 0 4
  | c :: q =>
    if c = 92 ∨ c = 34 then .ok ([c], 2)
    else if c = 110 then .ok ([10], 2)
    else if c = 114 then .ok ([13], 2)
    else if c = 116 then .ok ([9], 2)
    else if c = 117 then
      match q with
      | [] => .err 0 4
      | b :: h =>
        if b ≠ 123 then .err 0 4
        else
          let ds := (h.take 6).takeWhile isHex
          match ds, h.drop ds.length with
          | [], _ => .err 0 4
          | _ :: _, [] => .err 0 4
          | _ :: _, z :: _ => if z ≠ 125 then .err 0 4 else if isScalar (hexVal ds) then .ok (enc (hexVal ds), ds.length + 4) else .err 0 11
    else .err 0 4
/-- a quoted text behind its first quote; at: where r stands. -/
def qgo : Nat → Str → Nat → Str → Res (Str × Nat)
  | 0, _, a, _ => .err a 4
  | n + 1, r, a, acc =>
    match r with
    | [] => .err a 4
    | c :: q =>
      if c = 34 then .ok (acc, a + 1)
      else if c ≠ 92 then qgo n q (a + 1) (acc ++ [c])
      else match esc r with
        | .err _ e => .err a e
        | .ok (t, k) => qgo n (r.drop k) (a + k) (acc ++ t)
def quoted (r : Str) (a : Nat) : Res (Str × Nat) := qgo (r.length + 1) (r.drop 1) (a + 1) []
/-- a name that ends before a mark: its text, its end, the offset behind the mark. -/
def name (r : Str) (a : Nat) (mark : UInt8) : Res (Str × Nat × Nat) :=
  if r.head? = some 34 then
    match quoted r a with
    | .err b e => .err b e
    | .ok (t, i) =>
      let r2 := r.drop (i - a)
      let k := i + nB r2
      if (r2.drop (nB r2)).head? = some mark then .ok (t, i, k + 1) else .err k 4
  else
    let w := r.takeWhile (· ≠ mark)
    if nT w = 0 then .err a 4
    else if w.length = r.length then .err (a + r.length) 4
    else .ok (w.take (nT w), a + nT w, a + w.length + 1)
structure Nd where
  kind : Nat
  text : Str
  keys : List Nat
  items : List Nat
deriving DecidableEq
structure Sp where
  node : Nat
  parent : Int
  entry : Nat
  from_ : Nat
  to_ : Nat
  keyFrom : Nat
  keyTo : Nat
  whole : Bool
deriving DecidableEq
structure Note where
  from_ : Nat
  to_ : Nat
  text : Str
deriving DecidableEq
/-- the parser's state: the document, and the open section's node and span. -/
structure St where
  nodes : List Nd
  spans : List Sp
  notes : List Note
  node : Nat
  span : Nat
deriving DecidableEq
def textAt (nodes : List Nd) (k : Nat) : Option Str := (nodes[k]?).map (·.text)
def keyIn (nodes : List Nd) (node : Nat) (key : Str) : Bool := match nodes[node]? with
  | some m => m.keys.any (fun k => textAt nodes k == some key)
  | none => false
/-- one more entry of a node. -/
def add (st : St) (node span : Nat) (key : Str) (n : Nd) (s : Sp) : Res St :=
  if keyIn st.nodes node key then .err s.keyFrom 8
  else if st.nodes.length + 2 > 4096 then .err s.keyFrom 7
  else
    let k := st.nodes.length
    match st.nodes[node]? with
    | none => .err 0 0
    | some m => .ok { st with
        nodes := (st.nodes ++ [⟨5, key, [], []⟩, n]).set node { m with keys := m.keys ++ [k], items := m.items ++ [k + 1] }
        spans := st.spans ++ [{ s with node := k + 1, parent := span, entry := m.items.length }] }
/-- a section's line; r begins with its bracket. -/
def header (st : St) (r : Str) (a : Nat) : Res St :=
  let r1 := r.drop 1
  let b := a + 1 + nB r1
  match name (r1.drop (nB r1)) b 93 with
  | .err x e => .err x e
  | .ok (t, end_, i) =>
    let r2 := r.drop (i - a)
    if nB r2 < r2.length then .err (i + nB r2) 4
    else match add st 0 0 t ⟨10, [], [], []⟩ ⟨0, 0, 0, a, i, b, end_, false⟩ with
      | .err x e => .err x e
      | .ok st' => .ok { st' with node := st'.nodes.length - 1, span := st'.spans.length - 1 }
/-- an entry's value and its span's end. -/
def value (r : Str) (a : Nat) : Res (Str × Nat) :=
  if r.head? = some 34 then
    match quoted r a with
    | .err x e => .err x e
    | .ok (t, i) =>
      let r2 := r.drop (i - a)
      if nB r2 < r2.length then .err (i + nB r2) 4 else .ok (t, i)
  else .ok (r.take (nT r), a + nT r)
def setTo (spans : List Sp) (k to : Nat) : List Sp := match spans[k]? with
  | some s => spans.set k { s with to_ := to }
  | none => spans
def entry (st : St) (r : Str) (a : Nat) : Res St :=
  match name r a 61 with
  | .err x e => .err x e
  | .ok (key, end_, i) =>
    let r2 := r.drop (i - a)
    let b := i + nB r2
    match value (r2.drop (nB r2)) b with
    | .err x e => .err x e
    | .ok (t, to) =>
      match add st st.node st.span key ⟨5, t, [], []⟩ ⟨0, 0, 0, b, to, a, end_, true⟩ with
      | .err x e => .err x e
      | .ok st' => if st.span > 0 then .ok { st' with spans := setTo st'.spans st.span to } else .ok st'
/-- one line, which stands at a. -/
def line (st : St) (r : Str) (a : Nat) : Res St :=
  let q := r.drop (nB r)
  let b := a + nB r
  match q with
  | [] => .ok st
  | c :: _ =>
    if c = 59 ∨ c = 35 then .ok { st with notes := st.notes ++ [⟨b, a + r.length, q⟩] }
    else if c = 91 then header st q b
    else entry st q b
/-- the lines of a source; a line that ends loses a carriage return. -/
def cr (l : Str) : Str := if l.getLast? = some 13 then l.dropLast else l
def splitAt : Str → Str × Option Str
  | [] => ([], none)
  | c :: r => if c = 10 then ([], some r) else ((c :: (splitAt r).1), (splitAt r).2)
def lines : Nat → St → Str → Nat → Res St
  | 0, st, _, _ => .ok st
  | n + 1, st, r, a =>
    match splitAt r with
    | (l, none) => line st l a
    | (l, some q) => match line st (cr l) a with
      | .err x e => .err x e
      | .ok st' => lines n st' q (a + l.length + 1)
def start (n : Nat) : St := ⟨[⟨10, [], [], []⟩], [⟨0, -1, 0, 0, n, 0, 0, false⟩], [], 0, 0⟩
/-- the first control character that does not belong to a line's end. -/
def ctl : Str → Nat → Option Nat
  | [], _ => none
  | c :: r, i => if c < 32 && c != 9 && !(c == 10 || (c == 13 && r.head? == some 10)) then some i else ctl r (i + 1)
end Ini
end Go.Proofs.YtegdemnfjmaicaaDoor
namespace Go.Proofs.YtegdemnfjmaicaaDoor
namespace Ini
/-- the model's decoder at what is left of a string. -/
def dec (r : Str) : Nat × Nat :=
  let b (k : Nat) : Nat := (r.getD k 0).toNat
  let cont (k : Nat) : Bool := k < r.length && b k / 64 == 2
  if b 0 < 0x80 then (b 0, 1)
  else if b 0 / 32 == 6 && cont 1 then
    let c := (b 0 % 32) * 64 + b 1 % 64
    if c ≥ 0x80 then (c, 2) else (65533, 1)
  else if b 0 / 16 == 14 && cont 1 && cont 2 then
    let c := (b 0 % 16) * 4096 + (b 1 % 64) * 64 + b 2 % 64
    if c ≥ 0x800 && Utf8.valid c then (c, 3) else (65533, 1)
  else if b 0 / 8 == 30 && cont 1 && cont 2 && cont 3 then
    let c := (b 0 % 8) * 262144 + (b 1 % 64) * 4096 + (b 2 % 64) * 64 + b 3 % 64
    if c ≥ 0x10000 && Utf8.valid c then (c, 4) else (65533, 1)
  else (65533, 1)
theorem get_list (s : Str) (j : Nat) : ((⟨s.toArray⟩ : ByteArray).get! j) = s.getD j 0 := by
  show (s.toArray)[j]! = _
  rw [List.getElem!_toArray, List.getElem!_eq_getElem?_getD, List.getD_eq_getElem?_getD]
  rfl
theorem decode_list (s : Str) (i : Nat) : Utf8.decode ⟨s.toArray⟩ i = dec (s.drop i) := by
  have hb : ∀ k, (⟨s.toArray⟩ : ByteArray).get! (i + k) = (s.drop i).getD k 0 := by
    intro k
    rw [get_list, List.getD_eq_getElem?_getD, List.getD_eq_getElem?_getD, List.getElem?_drop]
  have hs : (⟨s.toArray⟩ : ByteArray).size = s.length := by simp [ByteArray.size]
  have hc : ∀ k, decide (i + k < (⟨s.toArray⟩ : ByteArray).size) = decide (k < (s.drop i).length) := by
    intro k
    rw [hs, List.length_drop, decide_eq_decide]; omega
  unfold Utf8.decode dec
  simp only [hb, hc, Utf8.runeError]
/-- the offset of the first byte that begins no sequence. -/
def badU : Nat → Str → Nat → Option Nat
  | 0, _, _ => none
  | n + 1, r, i => match r with
    | [] => none
    | _ :: _ => if (dec r).1 = 65533 ∧ (dec r).2 = 1 then some i else badU n (r.drop (dec r).2) (i + (dec r).2)
def bad (s : Str) : Option Nat := badU s.length s 0
theorem dec_width (r : Str) : 1 ≤ (dec r).2 ∧ (dec r).2 ≤ 4 := by
  unfold dec
  simp only
  repeat' split
  all_goals (constructor <;> simp)
/-- what the parser answers. -/
def parse (s : Str) : Res St :=
  if s.length > 65536 then .err 0 6
  else match bad s with
    | some a => .err a 11
    | none => match ctl s 0 with
      | some a => .err a 4
      | none => lines (s.length + 1) (start s.length) s 0
end Ini
end Go.Proofs.YtegdemnfjmaicaaDoor
namespace Go.Proofs.YtegdemnfjmaicaaDoor
namespace Ini
theorem enc_le (n : Nat) : (enc n).length ≤ 4 := by
  unfold enc
  repeat' split
  all_goals simp
theorem esc_len (r : Str) (t : Str) (k : Nat) (h : esc r = .ok (t, k)) : 2 ≤ k ∧ k ≤ r.length ∧ t.length ≤ k := by
  unfold esc at h
  split at h
  · cases h
  · rename_i c q hq
    have hl : r.length = q.length + 2 := by
      have := congrArg List.length hq
      simp at this
      omega
    split at h
    · injection h with h; injection h with h1 h2; subst h1 h2; simp; omega
    · split at h
      · injection h with h; injection h with h1 h2; subst h1 h2; simp; omega
      · split at h
        · injection h with h; injection h with h1 h2; subst h1 h2; simp; omega
        · split at h
          · injection h with h; injection h with h1 h2; subst h1 h2; simp; omega
          · split at h
            · split at h
              · cases h
              · rename_i b hh
                split at h
                · cases h
                · simp only at h
                  split at h
                  · cases h
                  · cases h
                  · rename_i d ds z rest hds hz
                    split at h
                    · cases h
                    · split at h
                      · injection h with h; injection h with h1 h2
                        have he := enc_le (hexVal (List.takeWhile isHex (List.take 6 hh)))
                        have h3 := congrArg List.length hds
                        have h4 := congrArg List.length hz
                        simp only [List.length_cons, List.length_drop] at h3 h4 hl
                        subst h1 h2
                        omega
                      · cases h
            · cases h
theorem esc_err (r : Str) (x e : Nat) (h : esc r = .err x e) : e = 4 ∨ e = 11 := by
  have h4 : ∀ y : Nat, Res.err (α := Str × Nat) y 4 = .err x e → e = 4 ∨ e = 11 := fun y h => by injection h with _ h2; omega
  unfold esc at h
  split at h
  · exact h4 _ h
  · split at h
    · cases h
    · split at h
      · cases h
      · split at h
        · cases h
        · split at h
          · cases h
          · split at h
            · split at h
              · exact h4 _ h
              · split at h
                · exact h4 _ h
                · simp only at h
                  split at h
                  · exact h4 _ h
                  · exact h4 _ h
                  · split at h
                    · exact h4 _ h
                    · split at h
                      · cases h
                      · injection h with _ h2; omega
            · exact h4 _ h
theorem qgo_fuel (n m : Nat) (r : Str) (a : Nat) (acc : Str) (hn : r.length < n) (hm : r.length < m) : qgo n r a acc = qgo m r a acc := by
  induction n generalizing m r a acc with
  | zero => omega
  | succ n ih =>
    cases m with
    | zero => omega
    | succ m =>
      cases r with
      | nil => rfl
      | cons c q =>
        unfold qgo
        simp only
        by_cases h1 : c = 34
        · rw [if_pos h1, if_pos h1]
        · rw [if_neg h1, if_neg h1]
          simp only [List.length_cons] at hn hm
          by_cases h2 : c ≠ 92
          · rw [if_pos h2, if_pos h2]; exact ih m q _ _ (by omega) (by omega)
          · rw [if_neg h2, if_neg h2]
            cases he : esc (c :: q) with
            | err x e => rfl
            | ok p =>
              obtain ⟨t, k⟩ := p
              have := esc_len _ _ _ he
              simp only [List.length_cons] at this
              exact ih m _ _ _ (by simp only [List.length_drop, List.length_cons]; omega) (by simp only [List.length_drop, List.length_cons]; omega)
/-- a quoted text from inside. -/
def Q (r : Str) (a : Nat) (acc : Str) : Res (Str × Nat) := qgo (r.length + 1) r a acc
theorem quoted_Q (c : UInt8) (q : Str) (a : Nat) : quoted (c :: q) a = Q q (a + 1) [] := by
  unfold quoted Q
  exact qgo_fuel _ _ _ _ _ (by simp; omega) (by simp)
theorem Q_nil (a : Nat) (acc : Str) : Q [] a acc = .err a 4 := rfl
theorem Q_end (q : Str) (a : Nat) (acc : Str) : Q (34 :: q) a acc = .ok (acc, a + 1) := rfl
theorem Q_byte (c : UInt8) (q : Str) (a : Nat) (acc : Str) (h1 : c ≠ 34) (h2 : c ≠ 92) : Q (c :: q) a acc = Q q (a + 1) (acc ++ [c]) := by
  unfold Q
  rw [List.length_cons]
  conv => lhs; unfold qgo
  simp only [h1, h2, if_false, ne_eq, not_false_eq_true, if_true]
theorem Q_esc (q : Str) (a : Nat) (acc : Str) : Q (92 :: q) a acc = match esc (92 :: q) with
    | .err _ e => .err a e
    | .ok (t, k) => Q ((92 :: q).drop k) (a + k) (acc ++ t) := by
  unfold Q
  rw [List.length_cons]
  conv => lhs; unfold qgo
  simp only [show ¬ ((92 : UInt8) = 34) from by decide, if_false, ne_eq, not_true_eq_false]
  cases he : esc (92 :: q) with
  | err x e => rfl
  | ok p =>
    obtain ⟨t, k⟩ := p
    have := esc_len _ _ _ he
    simp only [List.length_cons] at this
    exact qgo_fuel _ _ _ _ _ (by simp only [List.length_drop, List.length_cons]; omega) (by simp)
theorem qgo_bounds (n : Nat) (r : Str) (a : Nat) (acc : Str) (t : Str) (i : Nat) (h : qgo n r a acc = .ok (t, i)) : a + 1 ≤ i ∧ i ≤ a + r.length := by
  induction n generalizing r a acc with
  | zero => exact absurd h (by simp [qgo])
  | succ n ih =>
    cases r with
    | nil => exact absurd h (by simp [qgo])
    | cons c q =>
      unfold qgo at h
      simp only at h
      by_cases h1 : c = 34
      · rw [if_pos h1] at h
        injection h with h
        injection h with _ h
        simp only [List.length_cons]; omega
      · rw [if_neg h1] at h
        by_cases h2 : c ≠ 92
        · rw [if_pos h2] at h
          have := ih _ _ _ h
          simp only [List.length_cons]; omega
        · rw [if_neg h2] at h
          cases he : esc (c :: q) with
          | err x e => rw [he] at h; exact absurd h (by simp)
          | ok p =>
            obtain ⟨u, k⟩ := p
            rw [he] at h
            have h3 := esc_len _ _ _ he
            have h4 := ih _ _ _ h
            simp only [List.length_drop] at h4
            simp only [List.length_cons] at *
            omega
theorem Q_bounds (r : Str) (a : Nat) (acc : Str) (t : Str) (i : Nat) (h : Q r a acc = .ok (t, i)) : a + 1 ≤ i ∧ i ≤ a + r.length := qgo_bounds _ _ _ _ _ _ h
end Ini
end Go.Proofs.YtegdemnfjmaicaaDoor
namespace Go.Proofs.YtegdemnfjmaicaaDoor
structure Fit (st : Ini.St) : Prop where
  node : st.node < st.nodes.length
  pos : 0 < st.nodes.length
  span : st.span < st.spans.length
  nl : st.nodes.length ≤ 4096
  sl : st.spans.length ≤ st.nodes.length
  keys : ∀ j (h : j < st.nodes.length), st.nodes[j].keys.length ≤ st.nodes.length ∧ st.nodes[j].items.length ≤ st.nodes.length ∧ ∀ k ∈ st.nodes[j].keys, k < st.nodes.length
namespace Ini
theorem setTo_length (l : List Sp) (k to : Nat) : (setTo l k to).length = l.length := by
  unfold setTo; split <;> simp
/-- what add answers, in its ways. -/
theorem add_cases (st : St) (node span : Nat) (key : Str) (n : Nd) (s : Sp) (hn : node < st.nodes.length) :
    (add st node span key n s = .err s.keyFrom 8) ∨ (add st node span key n s = .err s.keyFrom 7) ∨
    (st.nodes.length + 2 ≤ 4096 ∧ keyIn st.nodes node key = false ∧ add st node span key n s = .ok { st with
        nodes := (st.nodes ++ [⟨5, key, [], []⟩, n]).set node { st.nodes[node] with keys := st.nodes[node].keys ++ [st.nodes.length], items := st.nodes[node].items ++ [st.nodes.length + 1] }
        spans := st.spans ++ [{ s with node := st.nodes.length + 1, parent := span, entry := st.nodes[node].items.length }] }) := by
  unfold add
  cases hk : keyIn st.nodes node key with
  | true => exact .inl rfl
  | false =>
    by_cases hm : st.nodes.length + 2 > 4096
    · rw [if_neg (by simp), if_pos hm]; exact .inr (.inl rfl)
    · rw [if_neg (by simp), if_neg hm, List.getElem?_eq_getElem hn]
      exact .inr (.inr ⟨by omega, rfl, rfl⟩)
end Ini
theorem Fit.start (n : Nat) : Fit (Ini.start n) := by
  refine ⟨by simp [Ini.start], by simp [Ini.start], by simp [Ini.start], by simp [Ini.start], by simp [Ini.start], ?_⟩
  intro j h
  have : j = 0 := by simp [Ini.start] at h; omega
  subst this
  simp [Ini.start]
theorem Fit.add {st st' : Ini.St} {node span : Nat} {key : Ini.Str} {n : Ini.Nd} {s : Ini.Sp} (h : Fit st) (hn : node < st.nodes.length) (hk : n.keys = [] ∧ n.items = []) (e : Ini.add st node span key n s = .ok st') :
    Fit st' ∧ st'.nodes.length = st.nodes.length + 2 ∧ st'.spans.length = st.spans.length + 1 ∧ st'.node = st.node ∧ st'.span = st.span := by
  rcases Ini.add_cases st node span key n s hn with h1 | h1 | ⟨hm, _, h1⟩
  · rw [h1] at e; cases e
  · rw [h1] at e; cases e
  · rw [h1] at e
    injection e with e
    subst e
    have hh := h.node
    have hs := h.span
    have hsl := h.sl
    refine ⟨⟨?_, ?_, ?_, ?_, ?_, ?_⟩, by simp, by simp, rfl, rfl⟩
    · simp; omega
    · simp
    · simp; omega
    · simp; omega
    · simp; omega
    · intro j hj
      simp only [List.length_set, List.length_append, List.length_cons, List.length_nil] at hj ⊢
      rw [List.getElem_set]
      split
      · rename_i he
        subst he
        obtain ⟨k1, k2, k3⟩ := h.keys node hn
        simp only [List.length_append, List.length_cons, List.length_nil, List.mem_append, List.mem_singleton]
        refine ⟨by omega, by omega, ?_⟩
        rintro k (h2 | h2)
        · have := k3 k h2; omega
        · omega
      · by_cases hj2 : j < st.nodes.length
        · rw [List.getElem_append_left hj2]
          obtain ⟨k1, k2, k3⟩ := h.keys j hj2
          exact ⟨by omega, by omega, fun k h2 => by have := k3 k h2; omega⟩
        · rw [List.getElem_append_right (by omega)]
          have : j - st.nodes.length = 0 ∨ j - st.nodes.length = 1 := by omega
          rcases this with h2 | h2
          · simp [h2]
          · simp only [h2, List.getElem_cons_succ, List.getElem_cons_zero, hk.1, hk.2]
            simp
theorem Fit.header {st st' : Ini.St} {r : Ini.Str} {a : Nat} (h : Fit st) (e : Ini.header st r a = .ok st') : Fit st' := by
  unfold Ini.header at e
  simp only at e
  split at e
  · cases e
  · split at e
    · cases e
    · split at e
      · cases e
      · rename_i st1 e1
        injection e with e
        subst e
        obtain ⟨f, h1, h2, _⟩ := h.add h.pos ⟨rfl, rfl⟩ e1
        exact ⟨by simp only; have := f.pos; omega, f.pos, by simp only; have := f.span; omega, f.nl, f.sl, f.keys⟩
theorem Fit.setTo {st : Ini.St} (h : Fit st) (k to : Nat) : Fit { st with spans := Ini.setTo st.spans k to } :=
  ⟨h.node, h.pos, by simp only [Ini.setTo_length]; exact h.span, h.nl, by simp only [Ini.setTo_length]; exact h.sl, h.keys⟩
theorem Fit.entry {st st' : Ini.St} {r : Ini.Str} {a : Nat} (h : Fit st) (e : Ini.entry st r a = .ok st') : Fit st' := by
  unfold Ini.entry at e
  simp only at e
  split at e
  · cases e
  · split at e
    · cases e
    · split at e
      · cases e
      · rename_i st1 e1
        obtain ⟨f, h1, h2, _⟩ := h.add h.node ⟨rfl, rfl⟩ e1
        split at e
        · injection e with e
          subst e
          exact f.setTo _ _
        · injection e with e
          subst e
          exact f
theorem Fit.line {st st' : Ini.St} {r : Ini.Str} {a : Nat} (h : Fit st) (e : Ini.line st r a = .ok st') : Fit st' := by
  unfold Ini.line at e
  simp only at e
  split at e
  · injection e with e
    subst e
    exact h
  · split at e
    · injection e with e
      subst e
      exact ⟨h.node, h.pos, h.span, h.nl, h.sl, h.keys⟩
    · split at e
      · exact h.header e
      · exact h.entry e
end Go.Proofs.YtegdemnfjmaicaaDoor
namespace Go.Proofs.YtegdemnfjmaicaaDoor
namespace Ini
theorem splitAt_none {l : Str} (h : (10 : UInt8) ∉ l) : splitAt l = (l, none) := by
  induction l with
  | nil => rfl
  | cons c r ih =>
    have hc : c ≠ 10 := fun e => h (by simp [e])
    have hr : (10 : UInt8) ∉ r := fun e => h (by simp [e])
    simp [splitAt, hc, ih hr]
theorem splitAt_some {l : Str} (h : (10 : UInt8) ∉ l) (q : Str) : splitAt (l ++ 10 :: q) = (l, some q) := by
  induction l with
  | nil => simp [splitAt]
  | cons c r ih =>
    have hc : c ≠ 10 := fun e => h (by simp [e])
    have hr : (10 : UInt8) ∉ r := fun e => h (by simp [e])
    simp [splitAt, hc, ih hr]
theorem split_cases (r : Str) : (10 : UInt8) ∉ r ∨ ∃ l q, r = l ++ 10 :: q ∧ (10 : UInt8) ∉ l := by
  induction r with
  | nil => left; simp
  | cons c r ih =>
    by_cases hc : c = 10
    · right; exact ⟨[], r, by simp [hc], by simp⟩
    · rcases ih with h | ⟨l, q, rfl, h⟩
      · left; simp [h]; exact fun e => hc e.symm
      · right; exact ⟨c :: l, q, rfl, by simp [h]; exact fun e => hc e.symm⟩
theorem lines_fuel (n m : Nat) (st : St) (r : Str) (a : Nat) (hn : r.length < n) (hm : r.length < m) : lines n st r a = lines m st r a := by
  induction n generalizing m st r a with
  | zero => omega
  | succ n ih =>
    cases m with
    | zero => omega
    | succ m =>
      rcases split_cases r with h | ⟨l, q, rfl, h⟩
      · simp [lines, splitAt_none h]
      · simp only [lines, splitAt_some h]
        simp only [List.length_append, List.length_cons] at hn hm
        cases line st (cr l) a with
        | err x e => rfl
        | ok st' => exact ih m st' q _ (by omega) (by omega)
/-- all lines. -/
def run (st : St) (r : Str) (a : Nat) : Res St := lines (r.length + 1) st r a
def Res.bind' {α β : Type} : Res α → (α → Res β) → Res β
  | .err a e, _ => .err a e
  | .ok x, f => f x
theorem run_last (st : St) (l : Str) (a : Nat) (h : (10 : UInt8) ∉ l) : run st l a = line st l a := by
  simp [run, lines, splitAt_none h]
theorem run_line (st : St) (l q : Str) (a : Nat) (h : (10 : UInt8) ∉ l) : run st (l ++ 10 :: q) a = (line st (cr l) a).bind' fun st' => run st' q (a + l.length + 1) := by
  simp only [run, lines, splitAt_some h]
  cases line st (cr l) a with
  | err x e => rfl
  | ok st' => exact lines_fuel _ _ _ _ _ (by rw [List.length_append, List.length_cons]; omega) (Nat.lt_succ_self _)
theorem line_nil (st : St) (a : Nat) : line st [] a = .ok st := rfl
theorem run_nil (st : St) (a : Nat) : run st [] a = .ok st := rfl
/-- behind a line's end the rest is read as if it stood alone. -/
theorem run_join (st : St) (x t : Str) (a : Nat) : run st (x ++ 10 :: t) a = (run st (x ++ [10]) a).bind' fun st' => run st' t (a + x.length + 1) := by
  generalize hn : x.length = n
  induction n using Nat.strongRecOn generalizing st x a with
  | ind n ih =>
    rcases split_cases x with h | ⟨l, q, rfl, h⟩
    · rw [run_line _ _ _ _ h, run_line _ _ _ _ h, hn]
      cases line st (cr x) a with
      | err _ _ => rfl
      | ok st' => rfl
    · rw [List.append_assoc, List.cons_append, run_line _ _ _ _ h, List.append_assoc, List.cons_append, run_line _ _ _ _ h]
      cases line st (cr l) a with
      | err _ _ => rfl
      | ok st' =>
        show run st' (q ++ 10 :: t) _ = (run st' (q ++ [10]) _).bind' _
        simp only [List.length_append, List.length_cons] at hn
        rw [ih q.length (by omega) st' q _ rfl]
        have e : a + l.length + 1 + q.length + 1 = a + n + 1 := by omega
        rw [e]
theorem cr_self (l : Str) (h : l.getLast? ≠ some 13) : cr l = l := by unfold cr; rw [if_neg h]
theorem run_end (st : St) (x : Str) (a : Nat) (h : x.getLast? ≠ some 13) : run st (x ++ [10]) a = run st x a := by
  generalize hn : x.length = n
  induction n using Nat.strongRecOn generalizing st x a with
  | ind n ih =>
    rcases split_cases x with h0 | ⟨l, q, rfl, h0⟩
    · rw [run_line _ _ _ _ h0, run_last _ _ _ h0, cr_self x h]
      cases line st x a with
      | err _ _ => rfl
      | ok st' => rfl
    · rw [List.append_assoc, List.cons_append, run_line _ _ _ _ h0, run_line _ _ _ _ h0]
      cases line st (cr l) a with
      | err _ _ => rfl
      | ok st' =>
        simp only [List.length_append, List.length_cons] at hn
        refine ih q.length (by omega) st' q _ ?_ rfl
        intro hq
        apply h
        cases q with
        | nil => simp at hq
        | cons c q => simpa [List.getLast?_append] using hq
/-- UTF-8: a byte below 128 divides. -/
theorem getD_app_lt (x t : Str) (c : UInt8) (k : Nat) (h : k < x.length) : (x ++ c :: t).getD k 0 = x.getD k 0 := by
  simp [List.getD_eq_getElem?_getD, List.getElem?_append_left h]
theorem cont_app (x t : Str) (c : UInt8) (hc : c.toNat < 128) (k : Nat) (h : k ≤ x.length) :
    (decide (k < (x ++ c :: t).length) && ((x ++ c :: t).getD k 0).toNat / 64 == 2) = (decide (k < x.length) && (x.getD k 0).toNat / 64 == 2) := by
  rcases Nat.lt_or_ge k x.length with hk | hk
  · rw [getD_app_lt x t c k hk]
    have : k < (x ++ c :: t).length := by simp; omega
    simp [hk]
    omega
  · have e : k = x.length := by omega
    subst e
    have e1 : (x ++ c :: t).getD x.length 0 = c := by simp [List.getD_eq_getElem?_getD]
    rw [e1]
    have : (c.toNat / 64 == 2) = false := by simp; omega
    simp [this]
theorem dec_app (x t : Str) (c : UInt8) (hc : c.toNat < 128) (hx : x ≠ []) : dec (x ++ c :: t) = dec x := by
  have h0 : 0 < x.length := List.length_pos_iff.2 hx
  have b0 := getD_app_lt x t c 0 h0
  have c1 := cont_app x t c hc 1 (by omega)
  unfold dec
  simp only [b0, c1]
  by_cases h1 : (decide (1 < x.length) && (x.getD 1 0).toNat / 64 == 2) = true
  · have l1 : 1 < x.length := by simp at h1; exact h1.1
    have b1 := getD_app_lt x t c 1 l1
    have c2 := cont_app x t c hc 2 (by omega)
    simp only [b1, c2]
    by_cases h2 : (decide (2 < x.length) && (x.getD 2 0).toNat / 64 == 2) = true
    · have l2 : 2 < x.length := by simp at h2; exact h2.1
      have b2 := getD_app_lt x t c 2 l2
      have c3 := cont_app x t c hc 3 (by omega)
      simp only [b2, c3]
      by_cases h3 : (decide (3 < x.length) && (x.getD 3 0).toNat / 64 == 2) = true
      · have l3 : 3 < x.length := by simp at h3; exact h3.1
        have b3 := getD_app_lt x t c 3 l3
        simp only [b3]
      · simp only [Bool.not_eq_true] at h3
        simp only [h3, Bool.and_false, Bool.false_eq_true, if_false]
    · simp only [Bool.not_eq_true] at h2
      simp only [h2, Bool.and_false, Bool.false_and, Bool.false_eq_true, if_false]
  · simp only [Bool.not_eq_true] at h1
    simp only [h1, Bool.and_false, Bool.false_and, Bool.false_eq_true, if_false]
theorem dec_len (r : Str) (h : r ≠ []) : (dec r).2 ≤ r.length := by
  have h0 : 0 < r.length := List.length_pos_iff.2 h
  unfold dec
  simp only
  repeat' split
  all_goals (simp_all <;> omega)
theorem badU_fuel (n m : Nat) (r : Str) (i : Nat) (hn : r.length ≤ n) (hm : r.length ≤ m) : badU n r i = badU m r i := by
  induction n generalizing m r i with
  | zero =>
    have : r = [] := List.eq_nil_of_length_eq_zero (by omega)
    subst this
    cases m <;> rfl
  | succ n ih =>
    cases r with
    | nil => cases m <;> rfl
    | cons c q =>
      cases m with
      | zero => simp at hm
      | succ m =>
        have hw := dec_width (c :: q)
        unfold badU
        simp only
        split
        · rfl
        · exact ih m _ _ (by simp at hn ⊢; omega) (by simp at hm ⊢; omega)
theorem badU_app (n : Nat) (x t : Str) (c : UInt8) (hc : c.toNat < 128) (i : Nat) (hn : (x ++ c :: t).length ≤ n) :
    badU n (x ++ c :: t) i = match badU n x i with
      | some j => some j
      | none => badU n t (i + x.length + 1) := by
  induction n generalizing x i with
  | zero => simp at hn
  | succ n ih =>
    cases x with
    | nil =>
      have hd : dec (c :: t) = (c.toNat, 1) := by
        unfold dec
        simp [hc]
      have hne : c.toNat ≠ 65533 := by omega
      simp only [List.nil_append, List.length_nil, Nat.add_zero]
      conv => lhs; unfold badU
      simp only [hd, hne, false_and, if_false, List.drop_succ_cons, List.drop_zero]
      show badU n t (i + 1) = badU (n + 1) t (i + 1)
      exact badU_fuel _ _ _ _ (by simp at hn; omega) (by simp at hn; omega)
    | cons d x =>
      have hd : dec (d :: x ++ c :: t) = dec (d :: x) := dec_app (d :: x) t c hc (by simp)
      have hw := dec_width (d :: x)
      have hl := dec_len (d :: x) (by simp)
      conv => lhs; unfold badU
      conv => rhs; unfold badU
      simp only [List.cons_append] at hd ⊢
      rw [hd]
      by_cases hb : (dec (d :: x)).1 = 65533 ∧ (dec (d :: x)).2 = 1
      · simp only [hb, and_self, if_true]
      · rw [if_neg hb, if_neg hb]
        have e : List.drop (dec (d :: x)).2 (d :: (x ++ c :: t)) = List.drop (dec (d :: x)).2 (d :: x) ++ c :: t := by
          rw [← List.cons_append, List.drop_append_of_le_length hl]
        rw [e, ih _ _ (by simp at hn ⊢; omega)]
        rw [show i + (dec (d :: x)).2 + (List.drop (dec (d :: x)).2 (d :: x)).length + 1 = i + (d :: x).length + 1 from by rw [List.length_drop]; omega]
        cases h5 : badU n (List.drop (dec (d :: x)).2 (d :: x)) (i + (dec (d :: x)).2) with
        | some j => rfl
        | none =>
          show badU n t _ = _
          have hlt : t.length ≤ n := by simp at hn; omega
          rw [show badU n t (i + (d :: x).length + 1) = badU (n + 1) t (i + (d :: x).length + 1) from badU_fuel _ _ _ _ hlt (by omega)]
          cases t with
          | nil => rfl
          | cons => rfl
theorem badU_shift (n : Nat) (r : Str) (i d : Nat) : badU n r (i + d) = (badU n r i).map (· + d) := by
  induction n generalizing r i with
  | zero => rfl
  | succ n ih =>
    cases r with
    | nil => rfl
    | cons c q =>
      unfold badU
      simp only
      split
      · rfl
      · rw [show i + d + (dec (c :: q)).2 = i + (dec (c :: q)).2 + d from by omega]
        exact ih _ _
theorem bad_app (x t : Str) (c : UInt8) (hc : c.toNat < 128) : bad (x ++ c :: t) = match bad x with
      | some j => some j
      | none => (bad t).map (· + (x.length + 1)) := by
  unfold bad
  rw [badU_app _ x t c hc 0 (Nat.le_refl _)]
  rw [badU_fuel (x ++ c :: t).length x.length x 0 (by simp) (Nat.le_refl _), badU_fuel (x ++ c :: t).length t.length t _ (by simp; omega) (Nat.le_refl _)]
  rw [show 0 + x.length + 1 = 0 + (x.length + 1) from by omega, badU_shift]
theorem ctl_shift (r : Str) (i d : Nat) : ctl r (i + d) = (ctl r i).map (· + d) := by
  induction r generalizing i with
  | nil => rfl
  | cons c r ih =>
    unfold ctl
    split
    · rfl
    · rw [show i + d + 1 = i + 1 + d from by omega]; exact ih _
theorem ctl_cons (c : UInt8) (r : Str) (i : Nat) : ctl (c :: r) i = if c < 32 && c != 9 && !(c == 10 || (c == 13 && r.head? == some 10)) then some i else ctl r (i + 1) := rfl
theorem ctl_app (x t : Str) (h : x.getLast? ≠ some 13) (i : Nat) : ctl (x ++ 10 :: t) i = match ctl x i with
      | some j => some j
      | none => ctl t (i + x.length + 1) := by
  induction x generalizing i with
  | nil => rfl
  | cons c x ih =>
    have hh : (x ++ 10 :: t).head? = if x = [] then some 10 else x.head? := by cases x <;> simp
    rw [List.cons_append, ctl_cons, ctl_cons]
    by_cases hx : x = []
    · subst hx
      have hc : c ≠ 13 := fun e => h (by simp [e])
      have hcb : (c == 13) = false := by simpa using hc
      simp only [List.nil_append, List.head?_cons, hcb, Bool.false_and, Bool.or_false]
      split
      · rfl
      · rfl
    · rw [hh, if_neg hx]
      split
      · rfl
      · rw [ih (by rw [List.getLast?_cons] at h; intro e; apply h; rw [e]; rfl) (i + 1)]
        rw [show i + 1 + x.length + 1 = i + (c :: x).length + 1 from by simp; omega]
/-- a text that ends in a line's end and holds no bad control character. -/
theorem ctl_join (x t : Str) (i : Nat) (h : ctl (x ++ [10]) i = none) : ctl (x ++ 10 :: t) i = ctl t (i + x.length + 1) := by
  induction x generalizing i with
  | nil => simp [ctl]
  | cons c x ih =>
    have hh : (x ++ 10 :: t).head? = (x ++ [10]).head? := by cases x <;> simp
    simp only [List.cons_append, ctl, hh] at h ⊢
    split at h
    · cases h
    · rename_i hif
      rw [if_neg hif, ih _ h]
      rw [show i + 1 + x.length + 1 = i + (c :: x).length + 1 from by simp; omega]
end Ini
end Go.Proofs.YtegdemnfjmaicaaDoor
namespace Go.Proofs.YtegdemnfjmaicaaDoor
namespace Ini
def segsGo : Nat → Str → Nat → List (Nat × Nat)
  | 0, _, _ => []
  | n + 1, r, a => match splitAt r with
    | (l, none) => [(a, a + l.length)]
    | (l, some q) => (a, a + (cr l).length) :: segsGo n q (a + l.length + 1)
/-- the lines of what is left. -/
def lineR (r : Str) (a : Nat) : List (Nat × Nat) := segsGo (r.length + 1) r a
theorem segs_fuel (n m : Nat) (r : Str) (a : Nat) (hn : r.length < n) (hm : r.length < m) : segsGo n r a = segsGo m r a := by
  induction n generalizing m r a with
  | zero => omega
  | succ n ih =>
    cases m with
    | zero => omega
    | succ m =>
      unfold segsGo
      rcases split_cases r with h | ⟨l, q, rfl, h⟩
      · rw [splitAt_none h]
      · rw [splitAt_some h]
        simp only
        rw [ih m q _ (by simp at hn; omega) (by simp at hm; omega)]
theorem lineR_last (r : Str) (a : Nat) (h : (10 : UInt8) ∉ r) : lineR r a = [(a, a + r.length)] := by
  unfold lineR segsGo; rw [splitAt_none h]
theorem lineR_line (l q : Str) (a : Nat) (h : (10 : UInt8) ∉ l) : lineR (l ++ 10 :: q) a = (a, a + (cr l).length) :: lineR q (a + l.length + 1) := by
  unfold lineR
  rw [show segsGo ((l ++ 10 :: q).length + 1) (l ++ 10 :: q) a = _ from rfl]
  conv => lhs; unfold segsGo
  rw [splitAt_some h]
  simp only
  rw [segs_fuel _ (q.length + 1) q _ (by simp; omega) (by omega)]
theorem cr_le (l : Str) : (cr l).length ≤ l.length := by unfold cr; split <;> simp
theorem cr_take (l : Str) : cr l = l.take (cr l).length := by
  unfold cr
  split
  · rw [List.dropLast_eq_take]; simp
  · simp
theorem lineR_bounds (n : Nat) (r : Str) (a : Nat) (hn : r.length ≤ n) : ∀ x ∈ lineR r a, x.1 ≤ x.2 ∧ x.2 ≤ a + r.length := by
  induction n generalizing r a with
  | zero =>
    obtain rfl : r = [] := List.eq_nil_of_length_eq_zero (by omega)
    rw [lineR_last [] a (by simp)]
    intro x hx
    simp at hx
    subst hx
    simp
  | succ n ih =>
    rcases split_cases r with h | ⟨l, q, rfl, h⟩
    · rw [lineR_last r a h]
      intro x hx
      simp at hx
      subst hx
      simp
    · rw [lineR_line l q a h]
      intro x hx
      have h1 := cr_le l
      rcases List.mem_cons.1 hx with rfl | hx
      · simp; omega
      · have := ih q (a + l.length + 1) (by simp at hn; omega) x hx
        simp
        omega
theorem lineR_length (n : Nat) (r : Str) (a : Nat) (hn : r.length ≤ n) : (lineR r a).length ≤ r.length + 1 := by
  induction n generalizing r a with
  | zero =>
    obtain rfl : r = [] := List.eq_nil_of_length_eq_zero (by omega)
    rw [lineR_last [] a (by simp)]
    simp
  | succ n ih =>
    rcases split_cases r with h | ⟨l, q, rfl, h⟩
    · rw [lineR_last r a h]; simp
    · rw [lineR_line l q a h]
      have := ih q (a + l.length + 1) (by simp at hn; omega)
      simp
      omega
/-- a range of a source. -/
def sgm (s : Str) (a tz : Nat) : Str := (s.take tz).drop a
/-- lines, one after the other. -/
def runs (s : Str) : List (Nat × Nat) → St → Res St
  | [], st => .ok st
  | x :: xs, st => match line st (sgm s x.1 x.2) x.1 with
    | .err a e => .err a e
    | .ok st' => runs s xs st'
theorem runs_snoc (s : Str) (xs : List (Nat × Nat)) (x : Nat × Nat) (st : St) : runs s (xs ++ [x]) st = match runs s xs st with
    | .err a e => .err a e
    | .ok st' => line st' (sgm s x.1 x.2) x.1 := by
  induction xs generalizing st with
  | nil =>
    simp only [List.nil_append, runs]
    split <;> simp_all
  | cons y ys ih =>
    simp only [List.cons_append, runs]
    cases line st (sgm s y.1 y.2) y.1 with
    | err a e => rfl
    | ok st' => exact ih st'
theorem runs_err (s : Str) (pre xs : List (Nat × Nat)) (st : St) (a e : Nat) (h : runs s pre st = .err a e) (hp : pre <+: xs) : runs s xs st = .err a e := by
  obtain ⟨t, rfl⟩ := hp
  induction pre generalizing st with
  | nil => cases h
  | cons y ys ih =>
    simp only [List.cons_append, runs] at h ⊢
    cases hl : line st (sgm s y.1 y.2) y.1 with
    | err a e => rw [hl] at h; exact h
    | ok st' => rw [hl] at h; exact ih st' h
theorem run_runs (n : Nat) (s r : Str) (a : Nat) (st : St) (hn : r.length ≤ n) (ha : a ≤ s.length) (hr : s.drop a = r) : run st r a = runs s (lineR r a) st := by
  have hrl : r.length = s.length - a := by rw [← hr]; simp
  have hs : ∀ k, k ≤ r.length → sgm s a (a + k) = r.take k := by
    intro k hk
    unfold sgm
    rw [← hr, List.drop_take]
    congr 1
    omega
  induction n generalizing r a st with
  | zero =>
    obtain rfl : r = [] := List.eq_nil_of_length_eq_zero (by omega)
    rw [lineR_last [] a (by simp), run_last st [] a (by simp)]
    simp only [runs]
    rw [hs _ (Nat.le_refl _)]
    cases h : line st [] a <;> simp_all
  | succ n ih =>
    rcases split_cases r with h | ⟨l, q, rfl, h⟩
    · rw [lineR_last r a h, run_last st r a h]
      simp only [runs]
      rw [hs _ (Nat.le_refl _), List.take_length]
      cases h : line st r a <;> simp_all
    · rw [lineR_line l q a h, run_line st l q a h]
      have h1 := cr_le l
      simp only [runs]
      rw [hs _ (by simp; omega), List.take_append_of_le_length h1, ← cr_take]
      cases hl : line st (cr l) a with
      | err x e => rfl
      | ok st' =>
        have hlen : l.length + 1 + q.length = s.length - a := by simp at hrl; omega
        have hd : s.drop (a + l.length + 1) = q := by
          rw [show a + l.length + 1 = a + (l.length + 1) from by omega, ← List.drop_drop, hr]
          simp
        refine ih q (a + l.length + 1) st' (by simp at hn; omega) (by omega) hd (by omega) ?_
        intro k hk
        unfold sgm
        rw [← hd, List.drop_take]
        congr 1
        omega
/-- the lines of a source. -/
def lineL (s : Str) : List (Nat × Nat) := lineR s 0
theorem lines_runs (s : Str) (st : St) : lines (s.length + 1) st s 0 = runs s (lineL s) st := run_runs s.length s s 0 st (Nat.le_refl _) (by omega) rfl
/-- where the next line feed is. -/
theorem index_none (r : Str) (h : (10 : UInt8) ∉ r) : Lib.indexByte r 10 = -1 := by
  induction r with
  | nil => rfl
  | cons c r ih =>
    simp only [List.mem_cons, not_or] at h
    unfold Lib.indexByte
    rw [ih h.2]
    have : (c == 10) = false := by simp; exact fun e => h.1 e.symm
    rw [this]
    rfl
theorem index_some (l q : Str) (h : (10 : UInt8) ∉ l) : Lib.indexByte (l ++ 10 :: q) 10 = (l.length : Int) := by
  induction l with
  | nil => simp [Lib.indexByte]
  | cons c l ih =>
    simp only [List.mem_cons, not_or] at h
    rw [List.cons_append]
    unfold Lib.indexByte
    rw [ih h.2]
    have : (c == 10) = false := by simp; exact fun e => h.1 e.symm
    rw [this]
    have h2 : ((l.length : Int) == -1) = false := by simp
    rw [h2]
    simp
/-- the notes are not more than the lines. -/
theorem line_notes {st st' : St} {r : Str} {a : Nat} (h : line st r a = .ok st') : st'.notes.length ≤ st.notes.length + 1 := by
  have hadd : ∀ {st st' : St} {node span : Nat} {key : Str} {n : Nd} {s : Sp}, add st node span key n s = .ok st' → st'.notes = st.notes := by
    intro st st' node span key n s h
    unfold add at h
    split at h
    · cases h
    · split at h
      · cases h
      · simp only at h
        split at h
        · cases h
        · injection h with h; subst h; rfl
  unfold line at h
  simp only at h
  split at h
  · injection h with h; subst h; omega
  · split at h
    · injection h with h; subst h; simp
    · split at h
      · unfold header at h
        simp only at h
        split at h
        · cases h
        · split at h
          · cases h
          · split at h
            · cases h
            · rename_i st1 e1
              injection h with h; subst h
              show st1.notes.length ≤ _
              rw [hadd e1]; omega
      · unfold entry at h
        simp only at h
        split at h
        · cases h
        · split at h
          · cases h
          · split at h
            · cases h
            · rename_i st1 e1
              have := hadd e1
              split at h
              · injection h with h; subst h; show st1.notes.length ≤ _; rw [this]; omega
              · injection h with h; subst h; rw [this]; omega
theorem runs_notes (s : Str) (xs : List (Nat × Nat)) (st st' : St) (h : runs s xs st = .ok st') : st'.notes.length ≤ st.notes.length + xs.length := by
  induction xs generalizing st with
  | nil => simp only [runs] at h; injection h with h; subst h; simp
  | cons x xs ih =>
    simp only [runs] at h
    cases hl : line st (sgm s x.1 x.2) x.1 with
    | err a e => rw [hl] at h; cases h
    | ok st1 =>
      rw [hl] at h
      have h1 := ih st1 h
      have h2 := line_notes hl
      simp
      omega
end Ini
theorem Fit.runs {s : Ini.Str} {xs : List (Nat × Nat)} {st st' : Ini.St} (h : Fit st) (e : Ini.runs s xs st = .ok st') : Fit st' := by
  induction xs generalizing st with
  | nil => simp only [Ini.runs] at e; injection e with e; subst e; exact h
  | cons x xs ih =>
    simp only [Ini.runs] at e
    cases hl : Ini.line st (Ini.sgm s x.1 x.2) x.1 with
    | err a e' => rw [hl] at e; cases e
    | ok st1 => rw [hl] at e; exact ih (h.line hl) e
end Go.Proofs.YtegdemnfjmaicaaDoor
namespace Go.Proofs.YtegdemnfjmaicaaDoor
namespace Ini
theorem qgo_shift (n : Nat) (r : Str) (a d : Nat) (acc : Str) : qgo n r (a + d) acc = match qgo n r a acc with
    | .err x e => .err (x + d) e
    | .ok (t, i) => .ok (t, i + d) := by
  induction n generalizing r a acc with
  | zero => rfl
  | succ n ih =>
    cases r with
    | nil => rfl
    | cons c q =>
      unfold qgo
      simp only
      by_cases h1 : c = 34
      · rw [if_pos h1, if_pos h1]
        simp only
        rw [show a + d + 1 = a + 1 + d from by omega]
      · rw [if_neg h1, if_neg h1]
        by_cases h2 : c ≠ 92
        · rw [if_pos h2, if_pos h2, show a + d + 1 = a + 1 + d from by omega]; exact ih _ _ _
        · rw [if_neg h2, if_neg h2]
          cases esc (c :: q) with
          | err x e => rfl
          | ok p =>
            obtain ⟨t, k⟩ := p
            show qgo n _ (a + d + k) _ = _
            rw [show a + d + k = a + k + d from by omega]
            exact ih _ _ _
theorem quoted_shift (r : Str) (a d : Nat) : quoted r (a + d) = match quoted r a with
    | .err x e => .err (x + d) e
    | .ok (t, i) => .ok (t, i + d) := by
  unfold quoted
  rw [show a + d + 1 = a + 1 + d from by omega]
  exact qgo_shift _ _ _ _ _
theorem name_shift (r : Str) (a d : Nat) (m : UInt8) : name r (a + d) m = match name r a m with
    | .err x e => .err (x + d) e
    | .ok (t, i, j) => .ok (t, i + d, j + d) := by
  unfold name
  by_cases h : r.head? = some 34
  · rw [if_pos h, if_pos h, quoted_shift]
    cases quoted r a with
    | err x e => rfl
    | ok p =>
      obtain ⟨t, i⟩ := p
      simp only [Nat.add_sub_add_right]
      by_cases h2 : (List.drop (nB (List.drop (i - a) r)) (List.drop (i - a) r)).head? = some m
      · rw [if_pos h2, if_pos h2]
        simp only
        rw [show i + d + nB (List.drop (i - a) r) + 1 = i + nB (List.drop (i - a) r) + 1 + d from by omega]
      · rw [if_neg h2, if_neg h2]
        simp only
        rw [show i + d + nB (List.drop (i - a) r) = i + nB (List.drop (i - a) r) + d from by omega]
  · rw [if_neg h, if_neg h]
    simp only
    by_cases h2 : nT (r.takeWhile (fun x => x ≠ m)) = 0
    · rw [if_pos h2, if_pos h2]
    · rw [if_neg h2, if_neg h2]
      by_cases h3 : (r.takeWhile (fun x => x ≠ m)).length = r.length
      · rw [if_pos h3, if_pos h3]
        simp only
        rw [show a + d + r.length = a + r.length + d from by omega]
      · rw [if_neg h3, if_neg h3]
        simp only
        rw [show a + d + nT (r.takeWhile (fun x => x ≠ m)) = a + nT (r.takeWhile (fun x => x ≠ m)) + d from by omega, show a + d + (r.takeWhile (fun x => x ≠ m)).length + 1 = a + (r.takeWhile (fun x => x ≠ m)).length + 1 + d from by omega]
theorem value_shift (r : Str) (a d : Nat) : value r (a + d) = match value r a with
    | .err x e => .err (x + d) e
    | .ok (t, i) => .ok (t, i + d) := by
  unfold value
  by_cases h : r.head? = some 34
  · rw [if_pos h, if_pos h, quoted_shift]
    cases quoted r a with
    | err x e => rfl
    | ok p =>
      obtain ⟨t, i⟩ := p
      simp only [Nat.add_sub_add_right]
      split
      · simp only
        rw [show i + d + nB (List.drop (i - a) r) = i + nB (List.drop (i - a) r) + d from by omega]
      · rfl
  · rw [if_neg h, if_neg h]
    simp only
    rw [show a + d + nT r = a + nT r + d from by omega]
/-- two states with the same graph. -/
structure Alike (st st' : St) : Prop where
  nodes : st'.nodes = st.nodes
  spans : st'.spans.length = st.spans.length
  notes : st.notes.length ≤ st'.notes.length
  node : st'.node = st.node
  span : st'.span = st.span
/-- two answers that differ by an offset. -/
def AlikeR (d : Nat) : Res St → Res St → Prop
  | .err a e, r => r = .err (a + d) e
  | .ok st, r => ∃ st', r = .ok st' ∧ Alike st st'
theorem add_alike {st st' : St} (h : Alike st st') (node span : Nat) (key : Str) (n : Nd) (s s' : Sp) (d : Nat) (hs : s'.keyFrom = s.keyFrom + d) (hn : node < st.nodes.length) :
    AlikeR d (add st node span key n s) (add st' node span key n s') := by
  unfold add
  rw [h.nodes]
  by_cases h1 : keyIn st.nodes node key = true
  · rw [if_pos h1, if_pos h1, hs]; rfl
  · rw [if_neg h1, if_neg h1]
    by_cases h2 : st.nodes.length + 2 > 4096
    · rw [if_pos h2, if_pos h2, hs]; rfl
    · rw [if_neg h2, if_neg h2]
      have hm : st.nodes[node]? = some st.nodes[node] := List.getElem?_eq_getElem hn
      simp only [hm]
      exact ⟨_, rfl, by simp, by simp [h.spans], h.notes, h.node, h.span⟩
theorem setTo_len (l : List Sp) (k to : Nat) : (setTo l k to).length = l.length := by
  unfold setTo; split <;> simp
theorem add_nodes {st st' : St} {node span : Nat} {key : Str} {n : Nd} {s : Sp} (h : add st node span key n s = .ok st') :
    st'.nodes.length = st.nodes.length + 2 ∧ st'.spans.length = st.spans.length + 1 ∧ st'.node = st.node ∧ st'.span = st.span ∧ st'.notes = st.notes := by
  unfold add at h
  split at h
  · cases h
  · split at h
    · cases h
    · simp only at h
      split at h
      · cases h
      · injection h with h
        subst h
        simp
theorem header_alike {st st' : St} (h : Alike st st') (r : Str) (a d : Nat) (h0 : 0 < st.nodes.length) : AlikeR d (header st r a) (header st' r (a + d)) := by
  unfold header
  simp only
  rw [show a + d + 1 + nB (List.drop 1 r) = a + 1 + nB (List.drop 1 r) + d from by omega, name_shift _ (a + 1 + nB (List.drop 1 r)) d]
  cases name (List.drop (nB (List.drop 1 r)) (List.drop 1 r)) (a + 1 + nB (List.drop 1 r)) 93 with
  | err x e => exact rfl
  | ok p =>
    obtain ⟨t, end_, i⟩ := p
    simp only [Nat.add_sub_add_right]
    split
    · simp only [AlikeR]
      rw [show i + d + nB (List.drop (i - a) r) = i + nB (List.drop (i - a) r) + d from by omega]
    · have ha := add_alike h 0 0 t ⟨10, [], [], []⟩ ⟨0, 0, 0, a, i, a + 1 + nB (List.drop 1 r), end_, false⟩ ⟨0, 0, 0, a + d, i + d, a + 1 + nB (List.drop 1 r) + d, end_ + d, false⟩ d rfl h0
      revert ha
      cases add st 0 0 t ⟨10, [], [], []⟩ ⟨0, 0, 0, a, i, a + 1 + nB (List.drop 1 r), end_, false⟩ with
      | err x e => intro ha; simp only [AlikeR] at ha ⊢; rw [ha]
      | ok s1 =>
        rintro ⟨s2, h2, h3⟩
        rw [h2]
        exact ⟨_, rfl, h3.nodes, h3.spans, h3.notes, by simp [h3.nodes], by simp [h3.spans]⟩
theorem entry_alike {st st' : St} (h : Alike st st') (r : Str) (a d : Nat) (h0 : st.node < st.nodes.length) : AlikeR d (entry st r a) (entry st' r (a + d)) := by
  unfold entry
  simp only
  rw [name_shift]
  cases name r a 61 with
  | err x e => exact rfl
  | ok p =>
    obtain ⟨key, end_, i⟩ := p
    simp only [Nat.add_sub_add_right]
    rw [show i + d + nB (List.drop (i - a) r) = i + nB (List.drop (i - a) r) + d from by omega, value_shift _ (i + nB (List.drop (i - a) r)) d]
    cases value (List.drop (nB (List.drop (i - a) r)) (List.drop (i - a) r)) (i + nB (List.drop (i - a) r)) with
    | err x e => exact rfl
    | ok p =>
      obtain ⟨t, to⟩ := p
      simp only
      have ha := add_alike h st.node st.span key ⟨5, t, [], []⟩ ⟨0, 0, 0, i + nB (List.drop (i - a) r), to, a, end_, true⟩ ⟨0, 0, 0, i + nB (List.drop (i - a) r) + d, to + d, a + d, end_ + d, true⟩ d rfl h0
      rw [h.node, h.span]
      revert ha
      cases add st st.node st.span key ⟨5, t, [], []⟩ ⟨0, 0, 0, i + nB (List.drop (i - a) r), to, a, end_, true⟩ with
      | err x e => intro ha; simp only [AlikeR] at ha ⊢; rw [ha]
      | ok s1 =>
        rintro ⟨s2, h2, h3⟩
        rw [h2]
        simp only
        split
        · exact ⟨_, rfl, h3.nodes, by simp [setTo_len, h3.spans], h3.notes, h3.node, h3.span⟩
        · exact ⟨_, rfl, h3⟩
/-- what every state of the parser keeps. -/
def Good (st : St) : Prop := 0 < st.nodes.length ∧ st.node < st.nodes.length
theorem line_alike {st st' : St} (h : Alike st st') (r : Str) (a d : Nat) (h0 : Good st) : AlikeR d (line st r a) (line st' r (a + d)) := by
  unfold line
  simp only
  split
  · exact ⟨_, rfl, h⟩
  · rw [show a + d + nB r = a + nB r + d from by omega]
    split
    · exact ⟨_, rfl, h.nodes, h.spans, by simp only [List.length_append, List.length_cons, List.length_nil]; have := h.notes; omega, h.node, h.span⟩
    · split
      · exact header_alike h _ _ _ h0.1
      · exact entry_alike h _ _ _ h0.2
theorem header_good {st st' : St} {r : Str} {a : Nat} (h : header st r a = .ok st') (h0 : Good st) : Good st' := by
  unfold header at h
  simp only at h
  split at h
  · cases h
  · split at h
    · cases h
    · split at h
      · cases h
      · rename_i s1 hs
        obtain ⟨h1, h2, h3, h4, h5⟩ := add_nodes hs
        injection h with h
        subst h
        have := h0.1
        constructor <;> simp <;> omega
theorem entry_good {st st' : St} {r : Str} {a : Nat} (h : entry st r a = .ok st') (h0 : Good st) : Good st' := by
  unfold entry at h
  simp only at h
  split at h
  · cases h
  · split at h
    · cases h
    · split at h
      · cases h
      · rename_i s1 hs
        obtain ⟨h1, h2, h3, h4, h5⟩ := add_nodes hs
        have h01 := h0.1
        have h02 := h0.2
        split at h
        · injection h with h
          subst h
          constructor <;> simp only <;> omega
        · injection h with h
          subst h
          constructor <;> omega
theorem line_good {st st' : St} {r : Str} {a : Nat} (h : line st r a = .ok st') (h0 : Good st) : Good st' := by
  unfold line at h
  simp only at h
  split at h
  · injection h with h; subst h; exact h0
  · split at h
    · injection h with h; subst h; exact h0
    · split at h
      · exact header_good h h0
      · exact entry_good h h0
theorem run_alike {st st' : St} (h : Alike st st') (r : Str) (a d : Nat) (h0 : Good st) : AlikeR d (run st r a) (run st' r (a + d)) := by
  generalize hn : r.length = n
  induction n using Nat.strongRecOn generalizing st st' r a with
  | ind n ih =>
    rcases split_cases r with h1 | ⟨l, q, rfl, h1⟩
    · rw [run_last _ _ _ h1, run_last _ _ _ h1]; exact line_alike h r a d h0
    · rw [run_line _ _ _ _ h1, run_line _ _ _ _ h1]
      have hl := line_alike h (cr l) a d h0
      cases hc : line st (cr l) a with
      | err x e => rw [hc] at hl; simp only [AlikeR] at hl; rw [hl]; exact rfl
      | ok s1 =>
        rw [hc] at hl
        obtain ⟨s2, h2, h3⟩ := hl
        rw [h2]
        simp only [List.length_append, List.length_cons] at hn
        show AlikeR d (run s1 q (a + l.length + 1)) (run s2 q (a + d + l.length + 1))
        rw [show a + d + l.length + 1 = a + l.length + 1 + d from by omega]
        exact ih q.length (by omega) h3 q _ (line_good hc h0) rfl
theorem run_good {st st' : St} {r : Str} {a : Nat} (h : run st r a = .ok st') (h0 : Good st) : Good st' := by
  generalize hn : r.length = n at *
  induction n using Nat.strongRecOn generalizing st r a with
  | ind n ih =>
    rcases split_cases r with h1 | ⟨l, q, rfl, h1⟩
    · rw [run_last _ _ _ h1] at h; exact line_good h h0
    · rw [run_line _ _ _ _ h1] at h
      cases hc : line st (cr l) a with
      | err x e => rw [hc] at h; cases h
      | ok s1 =>
        rw [hc] at h
        simp only [List.length_append, List.length_cons] at hn
        exact ih q.length (by omega) h (line_good hc h0) rfl
theorem start_good (n : Nat) : Good (start n) := by constructor <;> simp [start]
theorem Alike.trans {a b c : St} (h : Alike a b) (g : Alike b c) : Alike a c :=
  ⟨g.nodes.trans h.nodes, g.spans.trans h.spans, Nat.le_trans h.notes g.notes, g.node.trans h.node, g.span.trans h.span⟩
/-- what is put around a source. -/
def around : List Str := [[], [10], [32, 9, 13, 10], [59, 32, 91, 97, 93, 32, 61, 32, 34, 10], [9, 35, 32, 98, 10, 10]]
theorem around_cases {s : Str} (h : s ∈ around) : s = [] ∨ ∃ x, s = x ++ [10] := by
  simp only [around, List.mem_cons, List.not_mem_nil, or_false] at h
  rcases h with rfl | rfl | rfl | rfl | rfl
  · left; rfl
  · right; exact ⟨[], rfl⟩
  · right; exact ⟨[32, 9, 13], rfl⟩
  · right; exact ⟨[59, 32, 91, 97, 93, 32, 61, 32, 34], rfl⟩
  · right; exact ⟨[9, 35, 32, 98, 10], rfl⟩
theorem line_blank (st : St) (r : Str) (a : Nat) (h : r.drop (nB r) = []) : line st r a = .ok st := by
  unfold line; simp only [h]
theorem line_note (st : St) (r : Str) (a : Nat) (c : UInt8) (q : Str) (h : r.drop (nB r) = c :: q) (hc : c = 59 ∨ c = 35) : ∃ st', line st r a = .ok st' ∧ Alike st st' := by
  unfold line
  simp only [h, if_pos hc]
  exact ⟨_, rfl, rfl, rfl, by simp, rfl, rfl⟩
theorem Alike.refl (st : St) : Alike st st := ⟨rfl, rfl, Nat.le_refl _, rfl, rfl⟩
theorem run_around (st : St) (s : Str) (a : Nat) (h : s ∈ around) : ∃ st', run st s a = .ok st' ∧ Alike st st' := by
  simp only [around, List.mem_cons, List.not_mem_nil, or_false] at h
  rcases h with rfl | rfl | rfl | rfl | rfl
  · exact ⟨_, rfl, Alike.refl _⟩
  · exact ⟨st, by rw [show ([10] : Str) = [] ++ 10 :: [] from rfl, run_line _ _ _ _ (by simp)]; rfl, Alike.refl _⟩
  · exact ⟨st, by
      rw [show ([32, 9, 13, 10] : Str) = [32, 9, 13] ++ 10 :: [] from rfl, run_line _ _ _ _ (by decide)]
      rw [line_blank _ _ _ (by decide)]; rfl, Alike.refl _⟩
  · obtain ⟨st', h1, h2⟩ := line_note st [59, 32, 91, 97, 93, 32, 61, 32, 34] a 59 [32, 91, 97, 93, 32, 61, 32, 34] (by decide) (.inl rfl)
    refine ⟨st', ?_, h2⟩
    rw [show ([59, 32, 91, 97, 93, 32, 61, 32, 34, 10] : Str) = [59, 32, 91, 97, 93, 32, 61, 32, 34] ++ 10 :: [] from rfl, run_line _ _ _ _ (by decide)]
    rw [show cr [59, 32, 91, 97, 93, 32, 61, 32, 34] = [59, 32, 91, 97, 93, 32, 61, 32, 34] from by decide, h1]
    rfl
  · obtain ⟨st', h1, h2⟩ := line_note st [9, 35, 32, 98] a 35 [32, 98] (by decide) (.inr rfl)
    refine ⟨st', ?_, h2⟩
    rw [show ([9, 35, 32, 98, 10, 10] : Str) = [9, 35, 32, 98] ++ 10 :: [10] from rfl, run_line _ _ _ _ (by decide)]
    rw [show cr [9, 35, 32, 98] = [9, 35, 32, 98] from by decide, h1]
    show run st' [10] _ = _
    rw [show ([10] : Str) = [] ++ 10 :: [] from rfl, run_line _ _ _ _ (by simp)]; rfl
theorem bad_around {s : Str} (h : s ∈ around) : bad s = none ∧ ctl s 0 = none ∧ s.length ≤ 10 := by
  simp only [around, List.mem_cons, List.not_mem_nil, or_false] at h
  rcases h with rfl | rfl | rfl | rfl | rfl <;> decide
theorem bad_end (x : Str) : bad (x ++ [10]) = bad x := by
  rw [bad_app x [] 10 (by decide)]
  cases bad x <;> rfl
theorem parse_eq (s : Str) (h : s.length ≤ 65536) : parse s = match bad s with
    | some a => .err a 11
    | none => match ctl s 0 with
      | some a => .err a 4
      | none => run (start s.length) s 0 := by
  unfold parse
  rw [if_neg (by omega)]
  rfl
theorem bad_pre {s : Str} (h : s ∈ around) (t : Str) : bad (s ++ t) = (bad t).map (· + s.length) := by
  have hb := (bad_around h).1
  rcases around_cases h with rfl | ⟨x, rfl⟩
  · simp
  · rw [bad_end] at hb
    rw [List.append_assoc, List.singleton_append, bad_app x t 10 (by decide), hb]
    simp
theorem ctl_pre {s : Str} (h : s ∈ around) (t : Str) : ctl (s ++ t) 0 = (ctl t 0).map (· + s.length) := by
  have hc := (bad_around h).2.1
  rcases around_cases h with rfl | ⟨x, rfl⟩
  · simp
  · rw [List.append_assoc, List.singleton_append, ctl_join x t 0 hc, show 0 + x.length + 1 = 0 + (x.length + 1) from by omega, ctl_shift]
    simp
theorem run_pre {s : Str} (h : s ∈ around) (st : St) (t : Str) : ∃ st', run st (s ++ t) 0 = run st' t s.length ∧ Alike st st' := by
  rcases around_cases h with rfl | ⟨x, rfl⟩
  · exact ⟨st, rfl, Alike.refl _⟩
  · obtain ⟨st', h1, h2⟩ := run_around st _ 0 h
    refine ⟨st', ?_, h2⟩
    rw [List.append_assoc, List.singleton_append, run_join, h1]
    show run st' t _ = _
    rw [show 0 + x.length + 1 = (x ++ [10]).length from by simp]
/-- empty lines and comments around a source. -/
theorem parse_around (src s t : Str) (hs : s ∈ around) (ht : t ∈ around) (hl : src.length ≤ 500) (hr : src.getLast? ≠ some 13) :
    match parse src with
    | .err a e => parse (s ++ (src ++ 10 :: t)) = .err (s.length + a) e
    | .ok st => ∃ st', parse (s ++ (src ++ 10 :: t)) = .ok st' ∧ Alike st st' := by
  have h1 := (bad_around hs).2.2
  have h2 := bad_around ht
  rw [parse_eq src (by omega), parse_eq _ (by simp; omega)]
  rw [bad_pre hs, bad_app src t 10 (by decide), h2.1]
  cases bad src with
  | some a => simp [Nat.add_comm]
  | none =>
    simp only [Option.map_none]
    rw [ctl_pre hs, ctl_app src t hr 0]
    cases ctl src 0 with
    | some a => simp [Nat.add_comm]
    | none =>
      have hct : ctl t (0 + src.length + 1) = none := by
        rw [show 0 + src.length + 1 = 0 + (src.length + 1) from by omega, ctl_shift, h2.2.1]; rfl
      simp only [hct, Option.map_none]
      obtain ⟨s1, e1, a1⟩ := run_pre hs (start (s ++ (src ++ 10 :: t)).length) (src ++ 10 :: t)
      rw [e1, run_join, run_end _ _ _ hr]
      have a0 : Alike (start src.length) s1 := by
        refine ⟨a1.nodes, a1.spans, ?_, a1.node, a1.span⟩
        simp [start]
      have hal := run_alike a0 src 0 s.length (start_good _)
      rw [Nat.zero_add] at hal
      cases hrun : run (start src.length) src 0 with
      | err a e =>
        rw [hrun] at hal
        simp only [AlikeR] at hal
        rw [Nat.zero_add] at *
        rw [hal]
        simp [Res.bind', Nat.add_comm]
      | ok st =>
        rw [hrun] at hal
        obtain ⟨s2, e2, a2⟩ := hal
        rw [e2]
        obtain ⟨s3, e3, a3⟩ := run_around s2 t (s.length + src.length + 1) ht
        exact ⟨s3, e3, a2.trans a3⟩
end Ini
end Go.Proofs.YtegdemnfjmaicaaDoor
namespace Go.Proofs.YtegdemnfjmaicaaDoor
namespace Ini
theorem qgo_err (n : Nat) (r : Str) (a : Nat) (acc : Str) (x e : Nat) (h : qgo n r a acc = .err x e) : e = 4 ∨ e = 11 := by
  induction n generalizing r a acc with
  | zero => unfold qgo at h; injection h with _ h; exact .inl h.symm
  | succ n ih =>
    unfold qgo at h
    split at h
    · injection h with _ h; exact .inl h.symm
    · rename_i c q
      split at h
      · cases h
      · split at h
        · exact ih _ _ _ h
        · split at h
          · rename_i y e' he
            injection h with _ h
            have := esc_err _ _ _ he
            omega
          · exact ih _ _ _ h
theorem quoted_err (r : Str) (a x e : Nat) (h : quoted r a = .err x e) : e = 4 ∨ e = 11 := qgo_err _ _ _ _ _ _ h
theorem name_err (r : Str) (a : Nat) (m : UInt8) (x e : Nat) (h : name r a m = .err x e) : e = 4 ∨ e = 11 := by
  unfold name at h
  split at h
  · split at h
    · rename_i y e' he
      injection h with _ h
      have := quoted_err _ _ _ _ he
      omega
    · simp only at h
      split at h
      · cases h
      · injection h with _ h; exact .inl h.symm
  · simp only at h
    split at h
    · injection h with _ h; exact .inl h.symm
    · split at h
      · injection h with _ h; exact .inl h.symm
      · cases h
theorem value_err (r : Str) (a x e : Nat) (h : value r a = .err x e) : e = 4 ∨ e = 11 := by
  unfold value at h
  split at h
  · split at h
    · rename_i y e' he
      injection h with _ h
      have := quoted_err _ _ _ _ he
      omega
    · simp only at h
      split at h
      · injection h with _ h; exact .inl h.symm
      · cases h
  · cases h
theorem add_err (st : St) (node span : Nat) (key : Str) (n : Nd) (s : Sp) (hn : node < st.nodes.length) (x e : Nat) (h : add st node span key n s = .err x e) : e = 7 ∨ e = 8 := by
  rcases add_cases st node span key n s hn with h1 | h1 | ⟨_, _, h1⟩
  · rw [h1] at h; injection h with _ h; exact .inr h.symm
  · rw [h1] at h; injection h with _ h; exact .inl h.symm
  · rw [h1] at h; cases h
theorem header_err (st : St) (r : Str) (a x e : Nat) (hs : Good st) (h : header st r a = .err x e) : e ≠ 0 := by
  unfold header at h
  simp only at h
  split at h
  · rename_i y e' he
    injection h with _ h
    have := name_err _ _ _ _ _ he
    omega
  · split at h
    · injection h with _ h; omega
    · split at h
      · rename_i y e' he
        injection h with _ h
        have := add_err _ _ _ _ _ _ hs.1 _ _ he
        omega
      · cases h
theorem entry_err (st : St) (r : Str) (a x e : Nat) (hs : Good st) (h : entry st r a = .err x e) : e ≠ 0 := by
  unfold entry at h
  simp only at h
  split at h
  · rename_i y e' he
    injection h with _ h
    have := name_err _ _ _ _ _ he
    omega
  · split at h
    · rename_i y e' he
      injection h with _ h
      have := value_err _ _ _ _ he
      omega
    · split at h
      · rename_i y e' he
        injection h with _ h
        have := add_err _ _ _ _ _ _ hs.2 _ _ he
        omega
      · split at h <;> cases h
theorem line_err (st : St) (r : Str) (a x e : Nat) (hs : Good st) (h : line st r a = .err x e) : e ≠ 0 := by
  unfold line at h
  simp only at h
  split at h
  · cases h
  · split at h
    · cases h
    · split at h
      · exact header_err _ _ _ _ _ hs h
      · exact entry_err _ _ _ _ _ hs h
theorem runs_ne (s : Str) (xs : List (Nat × Nat)) (st : St) (x e : Nat) (hs : Good st) (h : runs s xs st = .err x e) : e ≠ 0 := by
  induction xs generalizing st with
  | nil => cases h
  | cons y ys ih =>
    simp only [runs] at h
    cases hl : line st (sgm s y.1 y.2) y.1 with
    | err a e' =>
      rw [hl] at h
      injection h with _ h
      have := line_err _ _ _ _ _ hs hl
      omega
    | ok st' =>
      rw [hl] at h
      exact ih st' (line_good hl hs) h
theorem parse_ne (s : Str) (x e : Nat) (h : parse s = .err x e) : e ≠ 0 := by
  unfold parse at h
  split at h
  · injection h with _ h; omega
  · split at h
    · injection h with _ h; omega
    · split at h
      · injection h with _ h; omega
      · rw [lines_runs] at h
        exact runs_ne _ _ _ _ _ (start_good _) h
end Ini
end Go.Proofs.YtegdemnfjmaicaaDoor
namespace Go.Proofs.YtegdemnfjmaicaaDoor
namespace Ini
theorem nB_len (r : Str) : nB r ≤ r.length := by unfold nB; exact (List.takeWhile_sublist _).length_le
theorem qgo_off (n : Nat) (r : Str) (a : Nat) (acc : Str) (x e : Nat) (h : qgo n r a acc = .err x e) : x ≤ a + r.length := by
  induction n generalizing r a acc with
  | zero => unfold qgo at h; injection h with h; omega
  | succ n ih =>
    unfold qgo at h
    split at h
    · injection h with h; omega
    · rename_i c q
      split at h
      · cases h
      · split at h
        · have := ih _ _ _ h
          simp
          omega
        · split at h
          · injection h with h; omega
          · rename_i t k he
            have h1 := esc_len _ _ _ he
            have h2 := ih _ _ _ h
            rw [List.length_drop] at h2
            omega
theorem quoted_off (r : Str) (a x e : Nat) (hr : r ≠ []) (h : quoted r a = .err x e) : x ≤ a + r.length := by
  have := qgo_off _ _ _ _ _ _ h
  cases r with
  | nil => exact absurd rfl hr
  | cons c q => simp at this ⊢; omega
theorem quoted_ok (r : Str) (a : Nat) (t : Str) (i : Nat) (hr : r ≠ []) (h : quoted r a = .ok (t, i)) : a ≤ i ∧ i ≤ a + r.length := by
  have := qgo_bounds _ _ _ _ _ _ h
  cases r with
  | nil => exact absurd rfl hr
  | cons c q => simp at this ⊢; omega
theorem head_ne {r : Str} {c : UInt8} (h : r.head? = some c) : r ≠ [] := by rintro rfl; cases h
theorem head_len {r : Str} {c : UInt8} (h : r.head? = some c) : 0 < r.length := List.length_pos_iff.2 (head_ne h)
theorem name_off (r : Str) (a : Nat) (m : UInt8) (x e : Nat) (h : name r a m = .err x e) : x ≤ a + r.length := by
  unfold name at h
  split at h
  · rename_i h0
    split at h
    · rename_i y e' he
      injection h with h
      have := quoted_off _ _ _ _ (head_ne h0) he
      omega
    · rename_i t i he
      simp only at h
      have h1 := quoted_ok _ _ _ _ (head_ne h0) he
      split at h
      · cases h
      · injection h with h
        have h2 := nB_len (r.drop (i - a))
        rw [List.length_drop] at h2
        omega
  · simp only at h
    split at h
    · injection h with h; omega
    · split at h
      · injection h with h; omega
      · cases h
theorem name_ok (r : Str) (a : Nat) (m : UInt8) (t : Str) (i j : Nat) (h : name r a m = .ok (t, i, j)) : a ≤ j ∧ j ≤ a + r.length := by
  unfold name at h
  split at h
  · rename_i h0
    split at h
    · cases h
    · rename_i t' i' he
      simp only at h
      have h1 := quoted_ok _ _ _ _ (head_ne h0) he
      split at h
      · rename_i h3
        injection h with h
        injection h with _ h
        injection h with _ h
        have h4 := head_len h3
        rw [List.length_drop, List.length_drop] at h4
        omega
      · cases h
  · simp only at h
    split at h
    · cases h
    · split at h
      · cases h
      · rename_i h3
        injection h with h
        injection h with _ h
        injection h with _ h
        have h4 : (r.takeWhile (fun c => decide (c ≠ m))).length ≤ r.length := (List.takeWhile_sublist _).length_le
        omega
theorem value_off (r : Str) (a x e : Nat) (h : value r a = .err x e) : x ≤ a + r.length := by
  unfold value at h
  split at h
  · rename_i h0
    split at h
    · rename_i y e' he
      injection h with h
      have := quoted_off _ _ _ _ (head_ne h0) he
      omega
    · rename_i t i he
      simp only at h
      have h1 := quoted_ok _ _ _ _ (head_ne h0) he
      split at h
      · injection h with h
        have h2 := nB_len (r.drop (i - a))
        rw [List.length_drop] at h2
        omega
      · cases h
  · cases h
theorem add_off (st : St) (node span : Nat) (key : Str) (n : Nd) (s : Sp) (hn : node < st.nodes.length) (x e : Nat) (h : add st node span key n s = .err x e) : x = s.keyFrom := by
  rcases add_cases st node span key n s hn with h1 | h1 | ⟨_, _, h1⟩
  · rw [h1] at h; injection h with h _; exact h.symm
  · rw [h1] at h; injection h with h _; exact h.symm
  · rw [h1] at h; cases h
theorem header_off (st : St) (r : Str) (a x e : Nat) (hs : Good st) (hr : r ≠ []) (h : header st r a = .err x e) : x ≤ a + r.length := by
  have hl : 0 < r.length := List.length_pos_iff.2 hr
  have hb := nB_len (r.drop 1)
  rw [List.length_drop] at hb
  unfold header at h
  simp only at h
  split at h
  · rename_i y e' he
    injection h with h
    have := name_off _ _ _ _ _ he
    rw [List.length_drop, List.length_drop] at this
    omega
  · rename_i t en i he
    have hj := name_ok _ _ _ _ _ _ he
    rw [List.length_drop, List.length_drop] at hj
    have h2 := nB_len (r.drop (i - a))
    rw [List.length_drop] at h2
    split at h
    · injection h with h
      omega
    · split at h
      · rename_i y e' ha
        injection h with h
        have := add_off _ _ _ _ _ _ hs.1 _ _ ha
        simp only at this
        omega
      · cases h
theorem entry_off (st : St) (r : Str) (a x e : Nat) (hs : Good st) (h : entry st r a = .err x e) : x ≤ a + r.length := by
  unfold entry at h
  simp only at h
  split at h
  · rename_i y e' he
    injection h with h
    have := name_off _ _ _ _ _ he
    omega
  · rename_i key en i he
    have hj := name_ok _ _ _ _ _ _ he
    have h2 := nB_len (r.drop (i - a))
    rw [List.length_drop] at h2
    split at h
    · rename_i y e' hv
      injection h with h
      have := value_off _ _ _ _ hv
      rw [List.length_drop, List.length_drop] at this
      omega
    · split at h
      · rename_i y e' ha
        injection h with h
        have := add_off _ _ _ _ _ _ hs.2 _ _ ha
        simp only at this
        omega
      · split at h <;> cases h
theorem line_off (st : St) (r : Str) (a x e : Nat) (hs : Good st) (h : line st r a = .err x e) : x ≤ a + r.length := by
  have hb := nB_len r
  unfold line at h
  simp only at h
  split at h
  · cases h
  · rename_i c q hq
    have hl : (r.drop (nB r)).length = r.length - nB r := List.length_drop
    split at h
    · cases h
    · split at h
      · have := header_off _ _ _ _ _ hs (by rw [hq]; simp) h
        omega
      · have := entry_off _ _ _ _ _ hs h
        omega
theorem runs_off (s : Str) (xs : List (Nat × Nat)) (st : St) (x e : Nat) (hs : Good st) (hx : ∀ y ∈ xs, y.1 ≤ y.2 ∧ y.2 ≤ s.length) (h : runs s xs st = .err x e) : x ≤ s.length := by
  induction xs generalizing st with
  | nil => cases h
  | cons y ys ih =>
    simp only [runs] at h
    obtain ⟨h1, h2⟩ := hx y (List.mem_cons_self ..)
    cases hl : line st (sgm s y.1 y.2) y.1 with
    | err a e' =>
      rw [hl] at h
      injection h with h
      have := line_off _ _ _ _ _ hs hl
      unfold sgm at this
      rw [List.length_drop, List.length_take] at this
      omega
    | ok st' =>
      rw [hl] at h
      exact ih st' (line_good hl hs) (fun z hz => hx z (List.mem_cons_of_mem _ hz)) h
theorem badU_off (n : Nat) (r : Str) (i k : Nat) (h : badU n r i = some k) : k ≤ i + r.length := by
  induction n generalizing r i with
  | zero => cases h
  | succ n ih =>
    cases r with
    | nil => cases h
    | cons c q =>
      have hd := dec_len (c :: q) (by simp)
      rw [show badU (n + 1) (c :: q) i = if (dec (c :: q)).1 = 65533 ∧ (dec (c :: q)).2 = 1 then some i else badU n ((c :: q).drop (dec (c :: q)).2) (i + (dec (c :: q)).2) from rfl] at h
      split at h
      · injection h with h; omega
      · have := ih _ _ h
        rw [List.length_drop] at this
        omega
theorem ctl_off (r : Str) (i k : Nat) (h : ctl r i = some k) : k ≤ i + r.length := by
  induction r generalizing i with
  | nil => cases h
  | cons c r ih =>
    rw [ctl_cons] at h
    split at h
    · injection h with h; simp; omega
    · have := ih _ h
      simp
      omega
theorem parse_off (s : Str) (x e : Nat) (h : parse s = .err x e) : x ≤ s.length := by
  unfold parse at h
  split at h
  · injection h with h; omega
  · split at h
    · rename_i k hk
      injection h with h
      have := badU_off _ _ _ _ hk
      omega
    · split at h
      · rename_i k hk
        injection h with h
        have := ctl_off _ _ _ hk
        omega
      · rw [lines_runs] at h
        refine runs_off _ _ _ _ _ (start_good _) ?_ h
        intro y hy
        have := lineR_bounds s.length s 0 (Nat.le_refl _) y hy
        omega
end Ini
end Go.Proofs.YtegdemnfjmaicaaDoor
namespace Go.Proofs.YtegdemnfjmaicaaDoor
namespace Ini
/-- the notes of a source that stands at a, and what is left of it without them. -/
inductive Cut : Str → Nat → List Note → Str → Prop
  | nil (r : Str) (a : Nat) : Cut r a [] r
  | cons {p q z t : Str} {a : Nat} {ns : List Note} (n : Note) (hf : n.from_ = a + p.length) (ht : n.to_ = a + p.length + q.length) (hx : n.text = q)
      (hq : ∃ c y, q = c :: y ∧ (c = 59 ∨ c = 35)) (hz : z = [] ∨ ∃ c y, z = c :: y ∧ (c = 10 ∨ c = 13)) (h : Cut z (a + p.length + q.length) ns t) :
      Cut (p ++ q ++ z) a (n :: ns) (p ++ t)
theorem Cut.pre (x : Str) {r t : Str} {a b : Nat} {ns : List Note} (h : Cut r b ns t) (hb : b = a + x.length) : Cut (x ++ r) a ns (x ++ t) := by
  subst hb
  cases h with
  | nil => exact .nil _ _
  | @cons p q z t _ ns n hf ht hx hq hz h =>
    rw [show x ++ (p ++ q ++ z) = (x ++ p) ++ q ++ z from by simp, ← List.append_assoc]
    refine .cons n ?_ ?_ hx hq hz ?_
    · rw [hf]; simp; omega
    · rw [ht]; simp; omega
    · rw [show a + (x ++ p).length + q.length = a + x.length + p.length + q.length from by simp; omega]; exact h
theorem add_same {st st' : St} {node span : Nat} {key : Str} {n : Nd} {s : Sp} (h : add st node span key n s = .ok st') : st'.notes = st.notes := by
  unfold add at h
  split at h
  · cases h
  · split at h
    · cases h
    · simp only at h
      split at h
      · cases h
      · injection h with h; subst h; rfl
/-- a line that is a note. -/
def IsNote (r : Str) : Prop := ∃ c y, r.drop (nB r) = c :: y ∧ (c = 59 ∨ c = 35)
theorem line_other {st st' : St} {r : Str} {a : Nat} (hn : ¬ IsNote r) (h : line st r a = .ok st') : st'.notes = st.notes := by
  unfold line at h
  simp only at h
  split at h
  · injection h with h; subst h; rfl
  · rename_i c y hc
    split at h
    · rename_i h1
      exact absurd ⟨c, y, hc, h1⟩ hn
    · split at h
      · unfold header at h
        simp only at h
        split at h
        · cases h
        · split at h
          · cases h
          · split at h
            · cases h
            · rename_i st1 e1
              injection h with h; subst h
              show st1.notes = _
              exact add_same e1
      · unfold entry at h
        simp only at h
        split at h
        · cases h
        · split at h
          · cases h
          · split at h
            · cases h
            · rename_i st1 e1
              have := add_same e1
              split at h
              · injection h with h; subst h; exact this
              · injection h with h; subst h; exact this
theorem line_isnote {st : St} {r : Str} {a : Nat} (h : IsNote r) : line st r a = .ok { st with notes := st.notes ++ [⟨a + nB r, a + r.length, r.drop (nB r)⟩] } := by
  obtain ⟨c, y, h1, h2⟩ := h
  unfold line
  simp only [h1, if_pos h2]
/-- the blanks ahead of a note. -/
theorem nB_cons (c : UInt8) (r : Str) : nB (c :: r) = if isB c then nB r + 1 else 0 := by
  unfold nB
  by_cases h : isB c <;> simp [h]
theorem lead_all {r : Str} : ∀ c ∈ r.take (nB r), c = 32 ∨ c = 9 := by
  induction r with
  | nil => intro c hc; simp at hc
  | cons d r ih =>
    intro c hc
    rw [nB_cons] at hc
    by_cases h : isB d
    · rw [if_pos h, List.take_succ_cons] at hc
      rcases List.mem_cons.1 hc with rfl | hc
      · simpa [isB] using h
      · exact ih c hc
    · rw [if_neg h] at hc; simp at hc
theorem lead_blank {B : Str} (h : ∀ c ∈ B, c = 32 ∨ c = 9) : B.drop (nB B) = [] := by
  induction B with
  | nil => rfl
  | cons c B ih =>
    rw [nB_cons, if_pos (by rcases h c (by simp) with rfl | rfl <;> rfl), List.drop_succ_cons]
    exact ih (fun d hd => h d (by simp [hd]))
theorem lead_10 {B : Str} (h : ∀ c ∈ B, c = 32 ∨ c = 9) : (10 : UInt8) ∉ B := fun hc => by rcases h _ hc with e | e <;> cases e
theorem lead_13 {B : Str} (h : ∀ c ∈ B, c = 32 ∨ c = 9) : B.getLast? ≠ some 13 := fun e => by rcases h _ (List.mem_of_getLast? e) with e | e <;> cases e
theorem dec_ascii (c : UInt8) (r : Str) (hc : c.toNat < 128) : dec (c :: r) = (c.toNat, 1) := by
  unfold dec
  simp only [List.getD_cons_zero]
  rw [if_pos hc]
theorem bad_cons (c : UInt8) (r : Str) (hc : c.toNat < 128) : bad (c :: r) = (bad r).map (· + 1) := by
  have := bad_app [] r c hc
  simpa [bad, badU] using this
theorem bad_lead {B : Str} (h : ∀ c ∈ B, c = 32 ∨ c = 9 ∨ c = 13) : bad B = none := by
  induction B with
  | nil => rfl
  | cons c B ih =>
    rw [bad_cons _ _ (by rcases h c (by simp) with rfl | rfl | rfl <;> decide), ih (fun d hd => h d (by simp [hd]))]
    rfl
theorem ctl_none (r : Str) (i j : Nat) (h : ctl r i = none) : ctl r j = none := by
  have h1 := ctl_shift r 0 i
  have h2 := ctl_shift r 0 j
  rw [Nat.zero_add] at h1 h2
  rw [h1] at h
  rw [h2]
  cases hc : ctl r 0 with
  | none => rfl
  | some x => rw [hc] at h; cases h
theorem ctl_part (x t : Str) (i : Nat) : ctl (x ++ 10 :: t) i = none ↔ ctl (x ++ [10]) 0 = none ∧ ctl t 0 = none := by
  constructor
  · intro h
    have h1 : ctl (x ++ [10]) i = none := by
      induction x generalizing i with
      | nil => rfl
      | cons c x ih =>
        have hh : (x ++ 10 :: t).head? = (x ++ [10]).head? := by cases x <;> simp
        simp only [List.cons_append, ctl, hh] at h ⊢
        split at h
        · cases h
        · rename_i hif
          rw [if_neg hif]; exact ih _ h
    exact ⟨ctl_none _ _ _ h1, ctl_none _ _ _ ((ctl_join x t i h1).symm.trans h)⟩
  · rintro ⟨h1, h2⟩
    exact ctl_none _ 0 _ ((ctl_join x t 0 h1).trans (ctl_none _ _ _ h2))
theorem ctl_lead {B : Str} (h : ∀ c ∈ B, c = 32 ∨ c = 9) (i : Nat) (z : Str) : ctl (B ++ z) i = none ↔ ctl z 0 = none := by
  induction B generalizing i with
  | nil => exact ⟨fun h => ctl_none _ _ _ h, fun h => ctl_none _ _ _ h⟩
  | cons c B ih =>
    rw [List.cons_append, ctl_cons, if_neg (by rcases h c (by simp) with rfl | rfl <;> simp)]
    exact ih (fun d hd => h d (by simp [hd])) _
theorem cr_parts (l : Str) : (l = cr l ∧ l.getLast? ≠ some 13) ∨ l = cr l ++ [13] := by
  unfold cr
  split
  · rename_i h
    right
    rw [← List.dropLast_concat_getLast (l := l) (by rintro rfl; cases h)]
    rw [List.getLast?_eq_some_getLast (by rintro rfl; cases h)] at h
    injection h with h
    simp [h]
  · rename_i h
    exact .inl ⟨rfl, h⟩
theorem cut_run {st st' st2 : St} {r : Str} {a b : Nat} (hb : b ≤ a) (h : run st r a = .ok st') (hal : Alike st2 st) (hg : Good st2) (hbad : bad r = none) (hctl : ctl r 0 = none) :
    ∃ ns t st3, st'.notes = st.notes ++ ns ∧ Cut r a ns t ∧ run st2 t b = .ok st3 ∧ Alike st3 st' ∧ st3.notes = st2.notes ∧ bad t = none ∧ ctl t 0 = none ∧ t.length ≤ r.length := by
  generalize hn : r.length = n at *
  induction n using Nat.strongRecOn generalizing st st2 r a b with
  | ind n ih =>
    have same : ∀ {st1 : St} {l : Str}, line st l a = .ok st1 → ¬ IsNote l → ∃ s3, line st2 l b = .ok s3 ∧ Alike s3 st1 ∧ s3.notes = st2.notes ∧ Good s3 ∧ st1.notes = st.notes := by
      intro st1 l h1 hno
      have := line_alike hal l b (a - b) hg
      rw [show b + (a - b) = a from by omega, h1] at this
      cases hc : line st2 l b with
      | err x e => rw [hc] at this; cases this
      | ok s3 =>
        rw [hc] at this
        obtain ⟨s4, e4, h4⟩ := this
        injection e4 with e4
        subst e4
        exact ⟨s3, rfl, h4, line_other hno hc, line_good hc hg, line_other hno h1⟩
    rcases split_cases r with h1 | ⟨l, q, rfl, h1⟩
    · rw [run_last _ _ _ h1] at h
      by_cases hno : IsNote r
      · rw [line_isnote hno] at h
        injection h with h
        subst h
        have hB := lead_all (r := r)
        refine ⟨[_], r.take (nB r) ++ [], st2, rfl, ?_, ?_, ⟨hal.nodes, hal.spans, by have := hal.notes; simp; omega, hal.node, hal.span⟩, rfl, ?_, ?_, ?_⟩
        · have hr : r = r.take (nB r) ++ r.drop (nB r) ++ [] := by simp
          have hl : (r.take (nB r)).length = nB r := by rw [List.length_take]; exact Nat.min_eq_left (nB_len r)
          have hl2 : (r.drop (nB r)).length = r.length - nB r := by simp
          have := nB_len r
          obtain ⟨c, y, e1, e2⟩ := hno
          have hcut := Cut.cons (p := r.take (nB r)) (q := r.drop (nB r)) (z := []) (t := []) (a := a) (ns := []) ⟨a + nB r, a + r.length, r.drop (nB r)⟩ (by rw [hl]) (by rw [hl, hl2]; show a + r.length = _; omega) rfl ⟨c, y, e1, e2⟩ (.inl rfl) (.nil _ _)
          rw [← hr] at hcut
          exact hcut
        · rw [List.append_nil, run_last _ _ _ (lead_10 hB)]
          exact line_blank _ _ _ (lead_blank hB)
        · rw [List.append_nil]; exact bad_lead (fun c hc => by rcases hB c hc with h | h <;> simp [h])
        · exact (ctl_lead hB 0 []).2 rfl
        · simp; omega
      · obtain ⟨s3, e3, h3, h4, _, h5⟩ := same h hno
        exact ⟨[], r, s3, by simp [h5], .nil _ _, by rw [run_last _ _ _ h1]; exact e3, h3, h4, hbad, hctl, by omega⟩
    · rw [run_line _ _ _ _ h1] at h
      rw [List.length_append, List.length_cons] at hn
      have hb1 : bad l = none ∧ bad q = none := by
        rw [bad_app l q 10 (by decide)] at hbad
        cases hl : bad l with
        | some j => rw [hl] at hbad; cases hbad
        | none =>
          rw [hl] at hbad
          cases hq : bad q with
          | some j => rw [hq] at hbad; cases hbad
          | none => exact ⟨rfl, rfl⟩
      have hc1 := (ctl_part l q 0).1 hctl
      cases hc : line st (cr l) a with
      | err x e => rw [hc] at h; cases h
      | ok s1 =>
        rw [hc] at h
        have h : run s1 q (a + l.length + 1) = .ok st' := h
        by_cases hno : IsNote (cr l)
        · rw [line_isnote hno] at hc
          injection hc with hc
          subst hc
          have hB := lead_all (r := cr l)
          obtain ⟨B, hBe⟩ : ∃ B, (cr l).take (nB (cr l)) = B := ⟨_, rfl⟩
          have hBl : B.length = nB (cr l) := by rw [← hBe, List.length_take]; exact Nat.min_eq_left (nB_len _)
          have hBd : (cr l).drop (nB (cr l)) = (cr l).drop B.length := by rw [hBl]
          have hBr : cr l = B ++ (cr l).drop B.length := by rw [hBl, ← hBe]; simp
          rw [hBe] at hB
          obtain ⟨z, hz, hz2⟩ : ∃ z : Str, l = cr l ++ z ∧ (z = [] ∨ z = [13]) := by
            rcases cr_parts l with ⟨e, _⟩ | e
            · exact ⟨[], by rw [List.append_nil]; exact e, .inl rfl⟩
            · exact ⟨[13], e, .inr rfl⟩
          have hzl : l.length = (cr l).length + z.length := by
            have := congrArg List.length hz
            rw [List.length_append] at this; exact this
          have hcl : (cr l).length = B.length + ((cr l).drop B.length).length := by
            have := congrArg List.length hBr
            rw [List.length_append] at this; exact this
          have hb2 : b + (B ++ z).length + 1 ≤ a + l.length + 1 := by rw [List.length_append]; omega
          obtain ⟨ns, t, st3, i1, i2, i3, i4, i5, i6, i7, i8⟩ := ih q.length (by omega) (st2 := st2) hb2 h ⟨hal.nodes, hal.spans, by have := hal.notes; simp; omega, hal.node, hal.span⟩ hg hb1.2 hc1.2 rfl
          have h10 : (10 : UInt8) ∉ B ++ z := by
            intro hx
            rcases List.mem_append.1 hx with hx | hx
            · exact lead_10 hB hx
            · rcases hz2 with rfl | rfl
              · cases hx
              · simp at hx
          have hcr : cr (B ++ z) = B := by
            rcases hz2 with rfl | rfl
            · rw [List.append_nil]; exact cr_self _ (lead_13 hB)
            · unfold cr; rw [if_pos (by simp)]; simp
          refine ⟨⟨a + nB (cr l), a + (cr l).length, (cr l).drop (nB (cr l))⟩ :: ns, (B ++ z) ++ 10 :: t, st3, ?_, ?_, ?_, i4, i5, ?_, ?_, ?_⟩
          · rw [i1]; simp
          · obtain ⟨c, y, e1, e2⟩ := hno
            have hcut := Cut.cons (p := B) (q := (cr l).drop B.length) (z := z ++ 10 :: q) (t := z ++ 10 :: t) (a := a) (ns := ns) ⟨a + nB (cr l), a + (cr l).length, (cr l).drop (nB (cr l))⟩ (by rw [hBl]) (by show a + (cr l).length = _; omega) hBd ⟨c, y, hBd.symm.trans e1, e2⟩
              (.inr (by rcases hz2 with rfl | rfl; exact ⟨10, q, rfl, .inl rfl⟩; exact ⟨13, 10 :: q, rfl, .inr rfl⟩))
              (by
                have := Cut.pre (z ++ [10]) (a := a + B.length + ((cr l).drop B.length).length) i2 (by simp; omega)
                simpa using this)
            rw [← hBr, show cr l ++ (z ++ 10 :: q) = l ++ 10 :: q from by rw [← List.append_assoc, ← hz]] at hcut
            simpa using hcut
          · rw [run_line _ _ _ _ h10, hcr, line_blank _ _ _ (lead_blank hB)]
            exact i3
          · rw [bad_app (B ++ z) t 10 (by decide), bad_lead (fun c hc => by
              rcases List.mem_append.1 hc with hc | hc
              · rcases hB c hc with h | h <;> simp [h]
              · rcases hz2 with rfl | rfl
                · cases hc
                · simp at hc; simp [hc]), i6]
            rfl
          · rw [ctl_part]
            refine ⟨?_, i7⟩
            rw [List.append_assoc, ctl_lead hB]
            rcases hz2 with rfl | rfl <;> rfl
          · simp only [List.length_append, List.length_cons] at hb2 ⊢; omega
        · obtain ⟨s3, e3, h3, h4, h5, h6⟩ := same hc hno
          obtain ⟨ns, t, st3, i1, i2, i3, i4, i5, i6, i7, i8⟩ := ih q.length (by omega) (st2 := s3) (b := b + l.length + 1) (by omega) h h3 h5 hb1.2 hc1.2 rfl
          refine ⟨ns, l ++ 10 :: t, st3, by rw [i1, h6], ?_, ?_, i4, by rw [i5, h4], ?_, ?_, ?_⟩
          · have := Cut.pre (l ++ [10]) (a := a) i2 (by simp; omega)
            simpa using this
          · rw [run_line _ _ _ _ h1, e3]; exact i3
          · rw [bad_app l t 10 (by decide), hb1.1, i6]; rfl
          · exact (ctl_part l t 0).2 ⟨hc1.1, i7⟩
          · simp only [List.length_append, List.length_cons]; omega
/-- THE PLAIN LAW of IniNotes. -/
theorem parse_notes {src : Str} {st : St} (hl : src.length ≤ 65536) (h : parse src = .ok st) :
    ∃ t st', Cut src 0 st.notes t ∧ t.length ≤ src.length ∧ parse t = .ok st' ∧ st'.nodes = st.nodes ∧ st'.notes = [] := by
  rw [parse_eq src hl] at h
  cases hb : bad src with
  | some x => rw [hb] at h; cases h
  | none =>
    rw [hb] at h
    simp only at h
    cases hc : ctl src 0 with
    | some x => rw [hc] at h; cases h
    | none =>
      rw [hc] at h
      obtain ⟨ns, t, st3, i1, i2, i3, i4, i5, i6, i7, i8⟩ := cut_run (st2 := start src.length) (Nat.le_refl 0) h (Alike.refl _) (start_good _) hb hc
      have i1 : st.notes = ns := by rw [i1]; rfl
      subst i1
      have hs : Alike (start t.length) (start src.length) := ⟨rfl, rfl, Nat.le_refl _, rfl, rfl⟩
      have hru := run_alike hs t 0 0 (start_good _)
      rw [i3] at hru
      cases hr : run (start t.length) t 0 with
      | err x e => rw [hr] at hru; cases hru
      | ok s4 =>
        rw [hr] at hru
        obtain ⟨s5, e5, h5⟩ := hru
        injection e5 with e5
        subst e5
        refine ⟨t, s4, i2, i8, ?_, ?_, ?_⟩
        · rw [parse_eq t (by omega), i6, i7]; exact hr
        · rw [← h5.nodes, ← i4.nodes]
        · have := h5.notes
          rw [i5] at this
          exact List.eq_nil_of_length_eq_zero (Nat.le_zero.1 this)
end Ini
end Go.Proofs.YtegdemnfjmaicaaDoor
namespace Go.Proofs.YtegdemnfjmaicaaDoor
namespace Ini
/-- an escape reads its own bytes alone. -/
theorem esc_own (r : Str) (t : Str) (k : Nat) (h : esc r = .ok (t, k)) : ∃ q p, r = q ++ p ∧ q.length = k ∧ 2 ≤ k ∧ ∀ z, esc (q ++ z) = .ok (t, k) := by
  match r, h with
  | [], h => exact absurd h (by simp [esc])
  | [_], h => exact absurd h (by simp [esc])
  | x :: c :: q, h =>
    by_cases h1 : c = 92 ∨ c = 34
    · have e : ∀ z, esc (x :: c :: z) = .ok ([c], 2) := fun z => by simp only [esc, List.drop_succ_cons, List.drop_zero, if_pos h1]
      rw [e] at h; injection h with h; injection h with h2 h3; subst h2; subst h3
      exact ⟨[x, c], q, rfl, rfl, Nat.le_refl _, fun z => e z⟩
    · by_cases h2 : c = 110
      · have e : ∀ z, esc (x :: c :: z) = .ok ([10], 2) := fun z => by simp only [esc, List.drop_succ_cons, List.drop_zero, if_neg h1, if_pos h2]
        rw [e] at h; injection h with h; injection h with h2 h3; subst h2; subst h3
        exact ⟨[x, c], q, rfl, rfl, Nat.le_refl _, fun z => e z⟩
      · by_cases h3 : c = 114
        · have e : ∀ z, esc (x :: c :: z) = .ok ([13], 2) := fun z => by simp only [esc, List.drop_succ_cons, List.drop_zero, if_neg h1, if_neg h2, if_pos h3]
          rw [e] at h; injection h with h; injection h with h2 h3; subst h2; subst h3
          exact ⟨[x, c], q, rfl, rfl, Nat.le_refl _, fun z => e z⟩
        · by_cases h4 : c = 116
          · have e : ∀ z, esc (x :: c :: z) = .ok ([9], 2) := fun z => by simp only [esc, List.drop_succ_cons, List.drop_zero, if_neg h1, if_neg h2, if_neg h3, if_pos h4]
            rw [e] at h; injection h with h; injection h with h2 h3; subst h2; subst h3
            exact ⟨[x, c], q, rfl, rfl, Nat.le_refl _, fun z => e z⟩
          · by_cases h5 : c = 117
            · subst h5
              match q, h with
              | [], h => exact absurd h (by simp [esc])
              | b :: y, h =>
                by_cases hb : b = 123
                · subst hb
                  have eu : ∀ y, esc (x :: 117 :: 123 :: y) = (match (y.take 6).takeWhile isHex, y.drop ((y.take 6).takeWhile isHex).length with
                      | [], _ => .err 0 4
                      | _ :: _, [] => .err 0 4
                      | _ :: _, z :: _ => if z ≠ 125 then .err 0 4 else if isScalar (hexVal ((y.take 6).takeWhile isHex)) then .ok (enc (hexVal ((y.take 6).takeWhile isHex)), ((y.take 6).takeWhile isHex).length + 4) else .err 0 11) := fun y => rfl
                  rw [eu] at h
                  obtain ⟨ds, hds⟩ : ∃ ds, (y.take 6).takeWhile isHex = ds := ⟨_, rfl⟩
                  rw [hds] at h
                  have hall : ∀ d ∈ ds, isHex d = true := by intro d hd; rw [← hds] at hd; exact List.all_eq_true.1 List.all_takeWhile d hd
                  have hl6 : ds.length ≤ 6 := by rw [← hds]; exact Nat.le_trans (List.takeWhile_sublist _).length_le (by rw [List.length_take]; omega)
                  have hpre : ds <+: y := by rw [← hds]; exact (List.takeWhile_prefix _).trans (List.take_prefix _ _)
                  obtain ⟨w, rfl⟩ := hpre
                  rw [List.drop_left] at h
                  match ds, w, h, hds, hall, hl6 with
                  | [], _, h, _, _, _ => cases h
                  | _ :: _, [], h, _, _, _ => cases h
                  | d :: ds, z0 :: w, h, hds, hall, hl6 =>
                    simp only at h
                    by_cases hz : z0 ≠ 125
                    · rw [if_pos hz] at h; cases h
                    · rw [if_neg hz] at h
                      have hz : z0 = 125 := Classical.not_not.1 hz
                      subst hz
                      by_cases hs : isScalar (hexVal (d :: ds)) = true
                      · rw [if_pos hs] at h
                        injection h with h; injection h with h2 h3; subst h2; subst h3
                        refine ⟨x :: 117 :: 123 :: ((d :: ds) ++ [125]), w, by simp, by simp, by simp, fun z => ?_⟩
                        have e : x :: 117 :: 123 :: ((d :: ds) ++ [125]) ++ z = x :: 117 :: 123 :: ((d :: ds) ++ 125 :: z) := by simp
                        rw [e, eu]
                        have ht : (((d :: ds) ++ 125 :: z).take 6).takeWhile isHex = d :: ds := by
                          rw [List.take_append, List.take_of_length_le hl6, List.takeWhile_append_of_pos hall]
                          cases hk : 6 - (d :: ds).length with
                          | zero => simp
                          | succ m => simp [List.take_succ_cons, show isHex 125 = false from by decide]
                        rw [ht, List.drop_left]
                        simp only [ne_eq, not_true_eq_false, if_false, if_pos hs]
                      · rw [if_neg hs] at h; cases h
                · exact absurd h (by simp [esc, hb])
            · exact absurd h (by simp only [esc, List.drop_succ_cons, List.drop_zero, if_neg h1, if_neg h2, if_neg h3, if_neg h4, if_neg h5]; intro h; cases h)
/-- a quoted text reads its own bytes alone. -/
theorem Q_own (r : Str) (a : Nat) (acc : Str) (t : Str) (i : Nat) (h : Q r a acc = .ok (t, i)) :
    ∃ q p, r = q ++ p ∧ i = a + q.length ∧ ∀ z b, Q (q ++ z) b acc = .ok (t, b + q.length) := by
  generalize hn : r.length = n
  induction n using Nat.strongRecOn generalizing r a acc with
  | ind n ih =>
    match r, h, hn with
    | [], h, _ => cases h
    | c :: r, h, hn =>
      by_cases h1 : c = 34
      · subst h1
        rw [Q_end] at h
        injection h with h; injection h with h2 h3; subst h2; subst h3
        exact ⟨[34], r, rfl, rfl, fun z b => Q_end z b acc⟩
      · by_cases h2 : c = 92
        · subst h2
          rw [Q_esc] at h
          cases he : esc (92 :: r) with
          | err x e => rw [he] at h; cases h
          | ok p =>
            obtain ⟨u, k⟩ := p
            rw [he] at h
            simp only at h
            obtain ⟨q, p, hqp, hk, hk2, hz⟩ := esc_own _ _ _ he
            rw [hqp, ← hk, List.drop_left] at h
            have hl := congrArg List.length hqp
            simp only [List.length_cons, List.length_append] at hl hn
            obtain ⟨q2, p2, rfl, hi, hz2⟩ := ih p.length (by omega) p _ _ h rfl
            have hq0 : ∃ q', q = 92 :: q' := by
              cases q with
              | nil => simp at hk; omega
              | cons d q' => simp only [List.cons_append, List.cons.injEq] at hqp; exact ⟨q', by rw [← hqp.1]⟩
            obtain ⟨q', rfl⟩ := hq0
            refine ⟨(92 :: q') ++ q2, p2, by rw [hqp]; simp, by rw [hi]; simp; omega, fun z b => ?_⟩
            have h3 := hz (q2 ++ z)
            rw [List.append_assoc, List.cons_append, Q_esc, ← List.cons_append, h3]
            simp only
            rw [← hk, List.drop_left, hz2]
            simp; omega
        · rw [Q_byte _ _ _ _ h1 h2] at h
          simp only [List.length_cons] at hn
          obtain ⟨q2, p2, rfl, hi, hz2⟩ := ih r.length (by omega) r _ _ h rfl
          refine ⟨c :: q2, p2, rfl, by rw [hi]; simp; omega, fun z b => ?_⟩
          rw [List.cons_append, Q_byte _ _ _ _ h1 h2, hz2]
          simp; omega
theorem quoted_own (r : Str) (a : Nat) (t : Str) (i : Nat) (hr : r.head? = some 34) (h : quoted r a = .ok (t, i)) :
    ∃ q p, r = q ++ p ∧ i = a + q.length ∧ q.head? = some 34 ∧ ∀ z b, quoted (q ++ z) b = .ok (t, b + q.length) := by
  cases r with
  | nil => cases hr
  | cons c r =>
    rw [quoted_Q] at h
    obtain ⟨q, p, rfl, hi, hz⟩ := Q_own _ _ _ _ _ h
    refine ⟨c :: q, p, rfl, by rw [hi]; simp; omega, by simpa using hr, fun z b => ?_⟩
    rw [List.cons_append, quoted_Q, hz]
    simp; omega
/-- bytes of which no control character is but the tabulator. -/
def Cl (l : Str) : Prop := ∀ c ∈ l, 32 ≤ c.toNat ∨ c = 9
theorem ctl_clean {x z : Str} {i : Nat} (h : ctl (x ++ z) i = none) (h10 : (10 : UInt8) ∉ x) (hz : z.head? ≠ some 10 ∨ x.getLast? ≠ some 13) : Cl x := by
  induction x generalizing i with
  | nil => intro c hc; cases hc
  | cons d x ih =>
    rw [List.cons_append, ctl_cons] at h
    simp only [List.mem_cons, not_or] at h10
    split at h
    · cases h
    · rename_i hif
      intro c hc
      rcases List.mem_cons.1 hc with rfl | hc
      · by_cases h9 : c = 9
        · exact .inr h9
        · left
          by_cases h32 : c < 32
          · exfalso
            apply hif
            have hh : ¬ (c = 13 ∧ (x ++ z).head? = some 10) := by
              rintro ⟨rfl, h2⟩
              cases x with
              | nil =>
                rcases hz with hz | hz
                · exact hz h2
                · exact hz rfl
              | cons y x => simp at h2; exact h10.2 (by simp [h2])
            have h10' : ¬ c = 10 := fun e => h10.1 e.symm
            simp only [h32, h9, h10', decide_true, bne_iff_ne, ne_eq, not_false_eq_true, Bool.and_eq_true, Bool.not_eq_true', Bool.or_eq_false_iff, beq_eq_false_iff_ne, Bool.and_eq_false_iff, and_self, true_and]
            by_cases h13 : c = 13
            · right; simpa using fun e => hh ⟨h13, e⟩
            · left; exact h13
          · exact UInt8.not_lt.1 h32
      · refine ih h h10.2 ?_ c hc
        rcases hz with hz | hz
        · exact .inl hz
        · cases x with
          | nil => simp at hc
          | cons y x => right; simpa [List.getLast?_cons_cons] using hz
theorem cr_clean {l q : Str} {i : Nat} (h : ctl (l ++ 10 :: q) i = none) (h10 : (10 : UInt8) ∉ l) : Cl (cr l) := by
  rcases cr_parts l with ⟨h1, h2⟩ | h1
  · rw [← h1]; exact ctl_clean h h10 (.inr h2)
  · have h3 := h1
    rw [h3, List.append_assoc] at h
    refine ctl_clean h ?_ (.inl (by simp))
    intro hm; apply h10; rw [h1]; simp [hm]
theorem bad_cut {q z : Str} (h : bad (q ++ z) = none) (hz : z = [] ∨ ∃ c y, z = c :: y ∧ c.toNat < 128) : bad q = none := by
  rcases hz with rfl | ⟨c, y, rfl, hc⟩
  · simpa using h
  · rw [bad_app q y c hc] at h
    cases hb : bad q with
    | none => rfl
    | some x => rw [hb] at h; cases h
theorem bad_tail {p z : Str} {c : UInt8} (hc : c.toNat < 128) (h : bad (p ++ c :: z) = none) : bad z = none := by
  rw [bad_app p z c hc] at h
  cases hb : bad p with
  | some x => rw [hb] at h; cases h
  | none => rw [hb] at h; cases hz : bad z with
    | none => rfl
    | some x => rw [hz] at h; cases h
theorem bad_lead_drop {r : Str} (h : bad r = none) : bad (r.drop (nB r)) = none := by
  induction r with
  | nil => exact h
  | cons c r ih =>
    rw [nB_cons]
    split
    · rename_i hb
      have hc : c.toNat < 128 := by
        have : c = 32 ∨ c = 9 := by simpa [isB] using hb
        rcases this with rfl | rfl <;> decide
      rw [List.drop_succ_cons]
      rw [bad_cons c r hc] at h
      apply ih
      cases hz : bad r with
      | none => rfl
      | some x => rw [hz] at h; cases h
    · exact h
theorem lead_stop (r : Str) : nB (r.drop (nB r)) = 0 := by
  induction r with
  | nil => rfl
  | cons c r ih =>
    by_cases h : isB c
    · rw [nB_cons, if_pos h, List.drop_succ_cons]; exact ih
    · rw [nB_cons, if_neg h, List.drop_zero, nB_cons, if_neg h]
theorem nB_full {r : Str} (h : ¬ nB r < r.length) : ∀ c ∈ r, c = 32 ∨ c = 9 := by
  have := lead_all (r := r)
  rw [List.take_of_length_le (by omega)] at this
  exact this
/-- blanks at the end. -/
theorem nT_le (r : Str) : nT r ≤ r.length := by
  unfold nT
  have := (List.dropWhile_sublist (l := r.reverse) isB).length_le
  simpa using this
theorem nT_snoc (r : Str) (c : UInt8) : nT (r ++ [c]) = if isB c then nT r else r.length + 1 := by
  unfold nT
  rw [List.reverse_append, List.reverse_singleton, List.singleton_append, List.dropWhile_cons]
  split <;> simp
theorem nT_drop (r : Str) : ∀ c ∈ r.drop (nT r), c = 32 ∨ c = 9 := by
  generalize hn : r.length = n
  induction n generalizing r with
  | zero => intro c hc; rw [List.eq_nil_of_length_eq_zero hn] at hc; simp at hc
  | succ n ih =>
    have hne : r ≠ [] := by rintro rfl; simp at hn
    obtain ⟨q, d, rfl⟩ : ∃ q d, r = q ++ [d] := ⟨r.dropLast, r.getLast hne, (List.dropLast_concat_getLast hne).symm⟩
    rw [nT_snoc]
    split
    · rename_i hb
      intro c hc
      rw [List.drop_append_of_le_length (nT_le q)] at hc
      rcases List.mem_append.1 hc with hc | hc
      · exact ih q (by simp at hn; exact hn) c hc
      · simp at hc; subst hc; simpa [isB] using hb
    · intro c hc
      rw [List.drop_of_length_le (by simp)] at hc; simp at hc
theorem nT_take (r : Str) : nT (r.take (nT r)) = (r.take (nT r)).length := by
  generalize hn : r.length = n
  induction n generalizing r with
  | zero => rw [List.eq_nil_of_length_eq_zero hn]; rfl
  | succ n ih =>
    have hne : r ≠ [] := by rintro rfl; simp at hn
    obtain ⟨q, d, rfl⟩ : ∃ q d, r = q ++ [d] := ⟨r.dropLast, r.getLast hne, (List.dropLast_concat_getLast hne).symm⟩
    rw [nT_snoc]
    split
    · rw [List.take_append_of_le_length (nT_le q)]
      exact ih q (by simp at hn; exact hn)
    · rename_i hb
      rw [List.take_of_length_le (by simp), nT_snoc, if_neg hb]; simp
/-- what a value's span shows: its bytes, and the text that they stand for. -/
def VS (q t : Str) : Prop := bad q = none ∧ Cl q ∧ nB q = 0 ∧
  ((q.head? = some 34 ∧ ∀ z b, quoted (q ++ z) b = .ok (t, b + q.length)) ∨ (q.head? ≠ some 34 ∧ t = q ∧ nT q = q.length))
theorem nB_take {v : Str} (h : nB v = 0) (k : Nat) : nB (v.take k) = 0 := by
  cases v with
  | nil => simp [nB]
  | cons c v =>
    cases k with
    | zero => simp [nB]
    | succ k =>
      rw [nB_cons] at h
      rw [List.take_succ_cons, nB_cons]
      split
      · rename_i hb; rw [if_pos hb] at h; omega
      · rfl
theorem Cl.take {v : Str} (h : Cl v) (k : Nat) : Cl (v.take k) := fun c hc => h c (List.mem_of_mem_take hc)
theorem Cl.drop {v : Str} (h : Cl v) (k : Nat) : Cl (v.drop k) := fun c hc => h c (List.mem_of_mem_drop hc)
theorem blanks_end {p : Str} (h : ∀ c ∈ p, c = 32 ∨ c = 9) : p = [] ∨ ∃ c y, p = c :: y ∧ c.toNat < 128 := by
  cases p with
  | nil => exact .inl rfl
  | cons c y => exact .inr ⟨c, y, rfl, by rcases h c (by simp) with rfl | rfl <;> decide⟩
theorem value_vs {v t : Str} {b z : Nat} (h : value v b = .ok (t, z)) (hn : nB v = 0) (hb : bad v = none) (hc : Cl v) : b ≤ z ∧ z ≤ b + v.length ∧ VS (v.take (z - b)) t := by
  unfold value at h
  split at h
  · rename_i h0
    split at h
    · cases h
    · rename_i t' i he
      simp only at h
      split at h
      · cases h
      · rename_i hnb
        injection h with h; injection h with h1 h2; subst h1; subst h2
        obtain ⟨q, p, rfl, hi, hq, hz⟩ := quoted_own _ _ _ _ h0 he
        rw [hi, Nat.add_sub_cancel_left, List.drop_left] at hnb
        have e : i - b = q.length := by omega
        refine ⟨by omega, by simp; omega, ?_⟩
        rw [e, List.take_left]
        refine ⟨bad_cut hb (blanks_end (nB_full hnb)), ?_, ?_, .inl ⟨hq, hz⟩⟩
        · have := hc.take q.length; rwa [List.take_left] at this
        · have := nB_take hn q.length; rwa [List.take_left] at this
  · rename_i h0
    injection h with h; injection h with h1 h2; subst h1; subst h2
    have hle := nT_le v
    refine ⟨by omega, by omega, ?_⟩
    rw [Nat.add_sub_cancel_left]
    refine ⟨?_, hc.take _, nB_take hn _, .inr ⟨?_, rfl, nT_take v⟩⟩
    · have := List.take_append_drop (nT v) v
      rw [← this] at hb
      exact bad_cut hb (blanks_end (nT_drop v))
    · intro hh
      apply h0
      cases v with
      | nil => simp at hh
      | cons c v =>
        cases hk : nT (c :: v) with
        | zero => rw [hk] at hh; simp at hh
        | succ k => rw [hk] at hh; simpa using hh
/-- a name ends before its mark. -/
theorem name_mark {r : Str} {a : Nat} {m : UInt8} {t : Str} {e i : Nat} (h : name r a m = .ok (t, e, i)) : ∃ p q, r = p ++ m :: q ∧ i = a + p.length + 1 ∧ r.drop (i - a) = q := by
  have key : ∀ k, k < r.length → r[k]? = some m → i = a + k + 1 → ∃ p q, r = p ++ m :: q ∧ i = a + p.length + 1 ∧ r.drop (i - a) = q := by
    intro k hk hm hi
    have hd : r.drop k = m :: r.drop (k + 1) := by
      rw [List.drop_eq_getElem_cons hk]
      rw [List.getElem?_eq_getElem hk] at hm
      injection hm with hm
      rw [hm]
    refine ⟨r.take k, r.drop (k + 1), ?_, ?_, ?_⟩
    · rw [← hd, List.take_append_drop]
    · rw [List.length_take]; omega
    · rw [show i - a = k + 1 from by omega]
  unfold name at h
  split at h
  · rename_i h0
    split at h
    · cases h
    · rename_i t' i' he
      simp only at h
      have h1 := quoted_ok _ _ _ _ (head_ne h0) he
      split at h
      · rename_i h3
        injection h with h
        injection h with _ h
        injection h with _ h
        have h4 := head_len h3
        rw [List.length_drop, List.length_drop] at h4
        refine key (i' - a + nB (r.drop (i' - a))) (by omega) ?_ (by omega)
        rw [List.head?_drop, List.getElem?_drop] at h3
        exact h3
      · cases h
  · simp only at h
    split at h
    · cases h
    · split at h
      · cases h
      · rename_i h3
        injection h with h
        injection h with _ h
        injection h with _ h
        have h4 : (r.takeWhile (fun c => decide (c ≠ m))).length ≤ r.length := (List.takeWhile_sublist _).length_le
        have h5 : (r.takeWhile (fun c => decide (c ≠ m))).length < r.length := by omega
        refine key (r.takeWhile (fun c => decide (c ≠ m))).length h5 ?_ (by omega)
        obtain ⟨w, hw⟩ : ∃ w, r.dropWhile (fun c => decide (c ≠ m)) = w := ⟨_, rfl⟩
        have e := List.takeWhile_append_dropWhile (p := fun c => decide (c ≠ m)) (l := r)
        rw [hw] at e
        cases w with
        | nil => rw [List.append_nil] at e; rw [e] at h5; omega
        | cons c w =>
          have hc : ¬ (fun c => decide (c ≠ m)) c = true := by
            have := List.head?_dropWhile_not (p := fun c => decide (c ≠ m)) (l := r)
            rw [hw] at this
            simpa using this
          have hc : c = m := by simpa using hc
          have : r[(r.takeWhile (fun c => decide (c ≠ m))).length]? = (r.takeWhile (fun c => decide (c ≠ m)) ++ c :: w)[(r.takeWhile (fun c => decide (c ≠ m))).length]? := by rw [e]
          rw [this, List.getElem?_append_right (Nat.le_refl _), Nat.sub_self, List.getElem?_cons_zero, hc]
/-- what an entry leaves. -/
theorem entry_cases {st st' : St} {r : Str} {a : Nat} (h : entry st r a = .ok st') (hn : st.node < st.nodes.length) :
    ∃ key e i t z, name r a 61 = .ok (key, e, i) ∧ value ((r.drop (i - a)).drop (nB (r.drop (i - a)))) (i + nB (r.drop (i - a))) = .ok (t, z) ∧
      keyIn st.nodes st.node key = false ∧ st.nodes.length + 2 ≤ 4096 ∧
      st'.nodes = (st.nodes ++ [(⟨5, key, [], []⟩ : Nd), ⟨5, t, [], []⟩]).set st.node { st.nodes[st.node] with keys := st.nodes[st.node].keys ++ [st.nodes.length], items := st.nodes[st.node].items ++ [st.nodes.length + 1] } ∧
      st'.spans = (if st.span > 0 then setTo (st.spans ++ [⟨st.nodes.length + 1, st.span, st.nodes[st.node].items.length, i + nB (r.drop (i - a)), z, a, e, true⟩]) st.span z else st.spans ++ [⟨st.nodes.length + 1, st.span, st.nodes[st.node].items.length, i + nB (r.drop (i - a)), z, a, e, true⟩]) ∧
      st'.notes = st.notes ∧ st'.node = st.node ∧ st'.span = st.span := by
  unfold entry at h
  simp only at h
  split at h
  · cases h
  · rename_i key e i hname
    split at h
    · cases h
    · rename_i t z hv
      rcases add_cases st st.node st.span key ⟨5, t, [], []⟩ ⟨0, 0, 0, i + nB (r.drop (i - a)), z, a, e, true⟩ hn with h1 | h1 | ⟨hm, hk, h1⟩
      · rw [h1] at h; cases h
      · rw [h1] at h; cases h
      · rw [h1] at h
        simp only at h
        refine ⟨key, e, i, t, z, hname, hv, hk, hm, ?_⟩
        split at h
        · rename_i hs
          injection h with h; subst h
          rw [if_pos hs]
          exact ⟨rfl, rfl, rfl, rfl, rfl⟩
        · rename_i hs
          injection h with h; subst h
          rw [if_neg hs]
          exact ⟨rfl, rfl, rfl, rfl, rfl⟩
/-- what a section's line leaves. -/
theorem header_cases {st st' : St} {r : Str} {a : Nat} (h : header st r a = .ok st') (hn : 0 < st.nodes.length) :
    ∃ t e i, name ((r.drop 1).drop (nB (r.drop 1))) (a + 1 + nB (r.drop 1)) 93 = .ok (t, e, i) ∧ ¬ nB (r.drop (i - a)) < (r.drop (i - a)).length ∧
      keyIn st.nodes 0 t = false ∧ st.nodes.length + 2 ≤ 4096 ∧
      st'.nodes = (st.nodes ++ [(⟨5, t, [], []⟩ : Nd), ⟨10, [], [], []⟩]).set 0 { st.nodes[0] with keys := st.nodes[0].keys ++ [st.nodes.length], items := st.nodes[0].items ++ [st.nodes.length + 1] } ∧
      st'.spans = st.spans ++ [⟨st.nodes.length + 1, 0, st.nodes[0].items.length, a, i, a + 1 + nB (r.drop 1), e, false⟩] ∧
      st'.notes = st.notes ∧ st'.node = st.nodes.length + 1 ∧ st'.span = st.spans.length := by
  unfold header at h
  simp only at h
  split at h
  · cases h
  · rename_i t e i hname
    split at h
    · cases h
    · rename_i hb
      rcases add_cases st 0 0 t ⟨10, [], [], []⟩ ⟨0, 0, 0, a, i, a + 1 + nB (r.drop 1), e, false⟩ hn with h1 | h1 | ⟨hm, hk, h1⟩
      · rw [h1] at h; cases h
      · rw [h1] at h; cases h
      · rw [h1] at h
        injection h with h
        subst h
        exact ⟨t, e, i, hname, hb, hk, hm, rfl, rfl, rfl, by simp, by simp⟩
/-- the texts of nodes stay. -/
theorem text_stays {l x : List Nd} {k j : Nat} {m nd : Nd} (hk : k < l.length) (hm : m.text = (l[k]).text) (h : l[j]? = some nd) : ∃ nd', ((l ++ x).set k m)[j]? = some nd' ∧ nd'.text = nd.text := by
  have hj : j < l.length := (List.getElem?_eq_some_iff.1 h).1
  have hjl : (l ++ x)[j]? = some nd := by rw [List.getElem?_append_left hj]; exact h
  by_cases e : k = j
  · subst e
    refine ⟨m, by rw [List.getElem?_set_self (by simp; omega)], ?_⟩
    rw [hm]
    rw [List.getElem?_eq_getElem hj] at h
    injection h with h; rw [h]
  · exact ⟨nd, by rw [List.getElem?_set_ne e]; exact hjl, rfl⟩
/-- the values' spans of a state. -/
structure VSt (src : Str) (st : St) : Prop where
  good : Good st
  span : st.span < st.spans.length
  open_ : ∀ y, st.spans[st.span]? = some y → y.whole = false
  all : ∀ x ∈ st.spans, x.whole = true → x.from_ ≤ x.to_ ∧ x.to_ ≤ src.length ∧ ∃ nd, st.nodes[x.node]? = some nd ∧ VS (sgm src x.from_ x.to_) nd.text
theorem VSt.start (src : Str) (n : Nat) : VSt src (start n) := by
  refine ⟨start_good n, by simp [Ini.start], ?_, ?_⟩
  · intro y hy; simp [Ini.start] at hy; rw [← hy]
  · intro x hx; simp [Ini.start] at hx; rw [hx]; intro h; cases h
theorem VSt.line {src : Str} {st st' : St} {r : Str} {a : Nat} (H : VSt src st) (h : line st r a = .ok st') (hr : ∃ w, src.drop a = r ++ w) (hb : bad r = none) (hc : Cl r) : VSt src st' := by
  have hgood := line_good h H.good
  obtain ⟨w, hw⟩ := hr
  unfold Ini.line at h
  simp only at h
  split at h
  · injection h with h; subst h; exact H
  · rename_i c y hq
    have hq2 : src.drop (a + nB r) = (c :: y) ++ w := by
      rw [← List.drop_drop, hw, List.drop_append_of_le_length (nB_len r), hq]
    have hb2 : bad (c :: y) = none := by rw [← hq]; exact bad_lead_drop hb
    have hc2 : Cl (c :: y) := by rw [← hq]; exact hc.drop _
    split at h
    · injection h with h; subst h
      exact ⟨hgood, H.span, H.open_, H.all⟩
    · split at h
      · obtain ⟨t, e, i, h1, h2, h3, h4, h5, h6, h7, h8, h9⟩ := header_cases h H.good.1
        refine ⟨hgood, by rw [h6, h9]; simp, ?_, ?_⟩
        · intro y hy
          rw [h6, h9] at hy
          simp at hy
          rw [← hy]
        · intro x hx hxw
          rw [h6] at hx
          rcases List.mem_append.1 hx with hx | hx
          · obtain ⟨i1, i2, nd, i3, i4⟩ := H.all x hx hxw
            refine ⟨i1, i2, ?_⟩
            rw [h5]
            obtain ⟨nd', j1, j2⟩ := text_stays (x := [⟨5, t, [], []⟩, ⟨10, [], [], []⟩]) (m := { st.nodes[0]'H.good.1 with keys := (st.nodes[0]'H.good.1).keys ++ [st.nodes.length], items := (st.nodes[0]'H.good.1).items ++ [st.nodes.length + 1] }) H.good.1 rfl i3
            exact ⟨nd', j1, by rw [j2]; exact i4⟩
          · simp at hx; rw [hx] at hxw; cases hxw
      · obtain ⟨key, e, i, t, z, h1, h2, h3, h4, h5, h6, h7, h8, h9⟩ := entry_cases h H.good.2
        obtain ⟨p, q, hpq, hi, hdq⟩ := name_mark h1
        rw [hdq] at h2 h6
        rw [hq] at hpq
        have hbq : bad q = none := by rw [hpq] at hb2; exact bad_tail (by decide) hb2
        have hcq : Cl q := by
          intro d hd; apply hc2; rw [hpq]; simp [hd]
        obtain ⟨k1, k2, k3⟩ := value_vs h2 (lead_stop q) (bad_lead_drop hbq) (hcq.drop _)
        have hv : src.drop (i + nB q) = q.drop (nB q) ++ w := by
          have e1 : src.drop i = q ++ w := by
            rw [show i = a + nB r + (p ++ [61]).length from by rw [hi]; simp; omega, ← List.drop_drop, hq2, hpq]
            simp
          rw [← List.drop_drop, e1, List.drop_append_of_le_length (nB_len q)]
        have hqd : (q.drop (nB q)).length = q.length - nB q := List.length_drop
        have hlen := congrArg List.length hv
        rw [List.length_drop, List.length_append] at hlen
        have hilt : i + nB q ≤ src.length := by
          have e1 := congrArg List.length hq2
          rw [List.length_drop, hpq] at e1
          simp only [List.length_append, List.length_cons] at e1
          have := nB_len q
          omega
        have hsg : sgm src (i + nB q) z = (q.drop (nB q)).take (z - (i + nB q)) := by
          unfold sgm
          rw [List.drop_take, hv, List.take_append_of_le_length (by omega)]
        have hall : ∀ x ∈ st.spans ++ [⟨st.nodes.length + 1, st.span, (st.nodes[st.node]'H.good.2).items.length, i + nB q, z, a + nB r, e, true⟩], x.whole = true → x.from_ ≤ x.to_ ∧ x.to_ ≤ src.length ∧ ∃ nd, st'.nodes[x.node]? = some nd ∧ VS (sgm src x.from_ x.to_) nd.text := by
          intro x hx hxw
          rcases List.mem_append.1 hx with hx | hx
          · obtain ⟨i1, i2, nd, i3, i4⟩ := H.all x hx hxw
            refine ⟨i1, i2, ?_⟩
            rw [h5]
            obtain ⟨nd', j1, j2⟩ := text_stays (x := [⟨5, key, [], []⟩, ⟨5, t, [], []⟩]) (m := { st.nodes[st.node]'H.good.2 with keys := (st.nodes[st.node]'H.good.2).keys ++ [st.nodes.length], items := (st.nodes[st.node]'H.good.2).items ++ [st.nodes.length + 1] }) H.good.2 rfl i3
            exact ⟨nd', j1, by rw [j2]; exact i4⟩
          · simp only [List.mem_singleton] at hx
            subst hx
            have hg := H.good.2
            refine ⟨k1, (by show z ≤ src.length; have := nB_len q; omega), ⟨5, t, [], []⟩, ?_, ?_⟩
            · show st'.nodes[st.nodes.length + 1]? = _
              rw [h5, List.getElem?_set_ne (by omega), List.getElem?_append_right (by omega)]
              simp
            · show VS (sgm src (i + nB q) z) t
              rw [hsg]; exact k3
        by_cases hs : st.span > 0
        · rw [if_pos hs] at h6
          have hsp := H.span
          have hget : (st.spans ++ [(⟨st.nodes.length + 1, st.span, (st.nodes[st.node]'H.good.2).items.length, i + nB q, z, a + nB r, e, true⟩ : Sp)])[st.span]? = some (st.spans[st.span]) := by
            rw [List.getElem?_append_left hsp, List.getElem?_eq_getElem hsp]
          have hop := H.open_ _ (List.getElem?_eq_getElem hsp)
          have h6' : st'.spans = (st.spans ++ [(⟨st.nodes.length + 1, st.span, (st.nodes[st.node]'H.good.2).items.length, i + nB q, z, a + nB r, e, true⟩ : Sp)]).set st.span { st.spans[st.span] with to_ := z } := by
            rw [h6]; unfold setTo; rw [hget]
          refine ⟨hgood, by rw [h9, h6', List.length_set, List.length_append]; omega, ?_, ?_⟩
          · intro y hy
            rw [h6', h9, List.getElem?_set_self (by simp; omega)] at hy
            injection hy with hy
            rw [← hy]; exact hop
          · intro x hx hxw
            rw [h6'] at hx
            rcases List.mem_or_eq_of_mem_set hx with hx | hx
            · exact hall x hx hxw
            · rw [hx] at hxw
              simp only [hop] at hxw; cases hxw
        · rw [if_neg hs] at h6
          refine ⟨hgood, by rw [h9, h6, List.length_append]; have := H.span; omega, ?_, ?_⟩
          · intro y hy
            rw [h6, h9, List.getElem?_append_left H.span] at hy
            exact H.open_ y hy
          · intro x hx hxw
            rw [h6] at hx
            exact hall x hx hxw
theorem VSt.run {src : Str} {st st' : St} {r : Str} {a : Nat} (H : VSt src st) (h : run st r a = .ok st') (hr : src.drop a = r) (ha : a ≤ src.length) (hb : bad r = none) (hc : ctl r 0 = none) : VSt src st' := by
  generalize hn : r.length = n
  induction n using Nat.strongRecOn generalizing st r a with
  | ind n ih =>
    rcases split_cases r with h1 | ⟨l, q, rfl, h1⟩
    · rw [run_last _ _ _ h1] at h
      exact H.line h ⟨[], by rw [hr]; simp⟩ hb (ctl_clean (z := []) (by rw [List.append_nil]; exact hc) h1 (.inl (by simp)))
    · rw [run_line _ _ _ _ h1] at h
      cases hl : Ini.line st (cr l) a with
      | err x e => rw [hl] at h; cases h
      | ok s1 =>
        rw [hl] at h
        simp only [List.length_append, List.length_cons] at hn
        have hbl : bad l = none := bad_cut hb (.inr ⟨10, q, rfl, by decide⟩)
        have hcl := cr_clean hc h1
        have hlen := congrArg List.length hr
        simp only [List.length_drop, List.length_append, List.length_cons] at hlen
        have H1 : VSt src s1 := by
          rcases cr_parts l with ⟨e1, _⟩ | e1
          · exact H.line hl ⟨10 :: q, by rw [hr, ← e1]⟩ (by rw [← e1]; exact hbl) hcl
          · refine H.line hl ⟨13 :: 10 :: q, ?_⟩ ?_ hcl
            · rw [hr]; conv => lhs; rw [e1]
              simp
            · rw [e1] at hbl
              exact bad_cut hbl (.inr ⟨13, [], rfl, by decide⟩)
        refine ih q.length (by omega) H1 h ?_ (by omega) (bad_tail (by decide) hb) ?_ rfl
        · rw [show a + l.length + 1 = a + (l ++ [10]).length from by simp; omega, ← List.drop_drop, hr]
          simp
        · exact ((ctl_part l q 0).1 hc).2
/-- every span of a value shows its text. -/
theorem parse_spans {src : Str} {st : St} (hl : src.length ≤ 65536) (h : parse src = .ok st) : VSt src st := by
  rw [parse_eq src hl] at h
  cases hb : bad src with
  | some x => rw [hb] at h; cases h
  | none =>
    rw [hb] at h
    simp only at h
    cases hc : ctl src 0 with
    | some x => rw [hc] at h; cases h
    | none =>
      rw [hc] at h
      exact (VSt.start src src.length).run h rfl (by omega) hb hc
end Ini
end Go.Proofs.YtegdemnfjmaicaaDoor
namespace Go.Proofs.YtegdemnfjmaicaaDoor
namespace Ini
theorem ctl_of_clean {l : Str} (h : Cl l) (i : Nat) : ctl l i = none := by
  induction l generalizing i with
  | nil => rfl
  | cons c l ih =>
    rw [ctl_cons, if_neg]
    · exact ih (fun d hd => h d (by simp [hd])) _
    · intro hif
      simp only [Bool.and_eq_true, decide_eq_true_eq, bne_iff_ne, ne_eq] at hif
      rcases h c (by simp) with h1 | h1
      · exact absurd (UInt8.lt_iff_toNat_lt.1 hif.1.1) (by simp; omega)
      · exact hif.1.2 h1
theorem Cl.no10 {l : Str} (h : Cl l) : (10 : UInt8) ∉ l := by
  intro hm
  rcases h 10 hm with h1 | h1
  · simp at h1
  · cases h1
def again (q : Str) : Str := 107 :: 9 :: 61 :: 32 :: 32 :: (q ++ [32])
theorem value_again {q t : Str} (hv : VS q t) (b : Nat) : ∃ z, value ((q ++ [32]).drop (nB (q ++ [32]))) b = .ok (t, z) := by
  obtain ⟨hb, hc, hn, hq⟩ := hv
  cases q with
  | nil =>
    rcases hq with ⟨h1, _⟩ | ⟨_, h1, _⟩
    · cases h1
    · subst h1; exact ⟨_, rfl⟩
  | cons c q =>
    have hcb : isB c = false := by
      rw [nB_cons] at hn
      split at hn
      · omega
      · rename_i h; simpa using h
    have h0 : nB (c :: q ++ [32]) = 0 := by rw [List.cons_append, nB_cons, hcb]; rfl
    rw [h0, List.drop_zero]
    rcases hq with ⟨h1, h2⟩ | ⟨h1, h2, h3⟩
    · refine ⟨b + (c :: q).length, ?_⟩
      unfold value
      rw [if_pos (by simpa using h1), h2]
      simp only
      rw [Nat.add_sub_cancel_left, List.drop_left]
      rw [if_neg (by decide)]
    · refine ⟨b + (c :: q).length, ?_⟩
      unfold value
      rw [if_neg (by simpa using h1), nT_snoc, if_pos (by decide), h3, List.take_left, h2]
theorem parse_again {q t : Str} (hv : VS q t) (hl : q.length ≤ 1000) : ∃ st, parse (again q) = .ok st ∧ st.nodes = [⟨10, [], [1], [2]⟩, ⟨5, [107], [], []⟩, ⟨5, t, [], []⟩] := by
  have hcl : Cl (again q) := by
    intro c hc
    simp only [again, List.mem_cons, List.mem_append, List.not_mem_nil, or_false] at hc
    rcases hc with rfl | rfl | rfl | rfl | rfl | hc | rfl
    · left; decide
    · right; rfl
    · left; decide
    · left; decide
    · left; decide
    · exact hv.2.1 c hc
    · left; decide
  have hbad : bad (again q) = none := by
    unfold again
    rw [bad_cons _ _ (by decide), bad_cons _ _ (by decide), bad_cons _ _ (by decide), bad_cons _ _ (by decide), bad_cons _ _ (by decide), bad_app q [] 32 (by decide), hv.1]
    rfl
  rw [parse_eq _ (by simp [again]; omega), hbad, ctl_of_clean hcl]
  simp only
  rw [run_last _ _ _ hcl.no10]
  have hname : name (again q) 0 61 = .ok ([107], 1, 3) := by
    unfold again name
    rw [if_neg (by simp)]
    have e : (107 :: 9 :: 61 :: 32 :: 32 :: (q ++ [32])).takeWhile (fun c => decide (c ≠ 61)) = [107, 9] := by
      simp
    rw [e]
    have e2 : nT [107, 9] = 1 := by decide
    simp only [e2]
    rw [if_neg (by decide), if_neg (by simp)]
    rfl
  obtain ⟨z, hz⟩ := value_again hv (3 + nB (32 :: 32 :: (q ++ [32])))
  have hd : ((again q).drop 3) = 32 :: 32 :: (q ++ [32]) := rfl
  have hnb : nB (32 :: 32 :: (q ++ [32])) = nB (q ++ [32]) + 1 + 1 := by
    rw [nB_cons, if_pos (by decide), nB_cons, if_pos (by decide)]
  unfold line
  have h0 : nB (again q) = 0 := by unfold again; rw [nB_cons]; rfl
  rw [h0, List.drop_zero]
  simp only
  unfold again
  simp only
  rw [if_neg (by decide), if_neg (by decide)]
  change ∃ st, entry (start (again q).length) (again q) 0 = .ok st ∧ _
  unfold entry
  rw [hname]
  simp only [Nat.sub_zero]
  have hdrop : ((again q).drop 3).drop (nB ((again q).drop 3)) = (q ++ [32]).drop (nB (q ++ [32])) := by
    rw [hd, hnb, List.drop_succ_cons, List.drop_succ_cons]
  rw [hdrop, show nB ((again q).drop 3) = nB (32 :: 32 :: (q ++ [32])) from by rw [hd], hz]
  exact ⟨_, rfl, rfl⟩
/-- THE PLAIN LAW of IniSpans. -/
theorem spans_law {src : Str} {st : St} (hl : src.length ≤ 500) (h : parse src = .ok st) (x : Sp) (hx : x ∈ st.spans) (hw : x.whole = true) :
    x.from_ ≤ x.to_ ∧ x.to_ ≤ src.length ∧ ∃ nd, st.nodes[x.node]? = some nd ∧ (∃ st2, parse (again (sgm src x.from_ x.to_)) = .ok st2 ∧ st2.nodes = [⟨10, [], [1], [2]⟩, ⟨5, [107], [], []⟩, ⟨5, nd.text, [], []⟩]) ∧
      ((sgm src x.from_ x.to_).head? = some 34 ∨ sgm src x.from_ x.to_ = nd.text) := by
  obtain ⟨h1, h2, nd, h3, h4⟩ := (parse_spans (by omega) h).all x hx hw
  refine ⟨h1, h2, nd, h3, parse_again h4 (by unfold sgm; rw [List.length_drop, List.length_take]; omega), ?_⟩
  rcases h4.2.2.2 with h5 | h5
  · exact .inl h5.1
  · exact .inr h5.2.1.symm
theorem spans_pos {src : Str} {st : St} (hl : src.length ≤ 500) (h : parse src = .ok st) : 0 < st.spans.length := by
  have := (parse_spans (by omega) h).span
  omega
end Ini
end Go.Proofs.YtegdemnfjmaicaaDoor
namespace Go.Proofs.YtegdemnfjmaicaaDoor
namespace Ini
/-- the nodes of entries. -/
def eNodes : List (Str × Str) → List Nd
  | [] => []
  | e :: L => ⟨5, e.1, [], []⟩ :: ⟨5, e.2, [], []⟩ :: eNodes L
def kys (p n : Nat) : List Nat := (List.range n).map (fun i => p + 1 + 2 * i)
def its (p n : Nat) : List Nat := (List.range n).map (fun i => p + 2 + 2 * i)
/-- a state whose open map, behind the nodes P, is the last one, and has these entries. -/
structure Flat (P : List Nd) (L : List (Str × Str)) (st : St) : Prop where
  nodes : st.nodes = P ++ ⟨10, [], kys P.length L.length, its P.length L.length⟩ :: eNodes L
  node : st.node = P.length
theorem eNodes_len (L : List (Str × Str)) : (eNodes L).length = 2 * L.length := by
  induction L with
  | nil => rfl
  | cons e L ih => simp [eNodes, ih]; omega
theorem eNodes_snoc (L : List (Str × Str)) (e : Str × Str) : eNodes (L ++ [e]) = eNodes L ++ [⟨5, e.1, [], []⟩, ⟨5, e.2, [], []⟩] := by
  induction L with
  | nil => rfl
  | cons f L ih => simp [eNodes, ih]
theorem eNodes_get (L : List (Str × Str)) (i : Nat) (h : i < L.length) : (eNodes L)[2 * i]? = some ⟨5, L[i].1, [], []⟩ ∧ (eNodes L)[2 * i + 1]? = some ⟨5, L[i].2, [], []⟩ := by
  induction L generalizing i with
  | nil => simp at h
  | cons e L ih =>
    cases i with
    | zero => exact ⟨rfl, rfl⟩
    | succ i =>
      simp only [List.length_cons] at h
      have := ih i (by omega)
      exact this
theorem kys_snoc (p n : Nat) : kys p (n + 1) = kys p n ++ [p + 1 + 2 * n] := by simp [kys, List.range_succ]
theorem its_snoc (p n : Nat) : its p (n + 1) = its p n ++ [p + 2 + 2 * n] := by simp [its, List.range_succ]
section
variable {P : List Nd} {L : List (Str × Str)} {st st' : St}
theorem Flat.len (h : Flat P L st) : st.nodes.length = P.length + 1 + 2 * L.length := by rw [h.nodes, List.length_append, List.length_cons, eNodes_len]; omega
theorem Flat.lt (h : Flat P L st) : st.node < st.nodes.length := by rw [h.len, h.node]; omega
theorem Flat.map (h : Flat P L st) : st.nodes[P.length]? = some ⟨10, [], kys P.length L.length, its P.length L.length⟩ := by rw [h.nodes]; simp
theorem Flat.get (h : Flat P L st) (i : Nat) (hi : i < L.length) : st.nodes[P.length + 1 + 2 * i]? = some ⟨5, L[i].1, [], []⟩ ∧ st.nodes[P.length + 2 + 2 * i]? = some ⟨5, L[i].2, [], []⟩ := by
  rw [h.nodes, List.getElem?_append_right (by omega), List.getElem?_append_right (by omega)]
  rw [show P.length + 1 + 2 * i - P.length = 2 * i + 1 from by omega, show P.length + 2 + 2 * i - P.length = 2 * i + 1 + 1 from by omega, List.getElem?_cons_succ, List.getElem?_cons_succ]
  exact eNodes_get L i hi
theorem Flat.keyIn (h : Flat P L st) (key : Str) : keyIn st.nodes P.length key = decide (key ∈ L.map (·.1)) := by
  unfold Ini.keyIn
  rw [h.map]
  simp only
  rw [Bool.eq_iff_iff, List.any_eq_true, decide_eq_true_eq]
  constructor
  · rintro ⟨k, hk, he⟩
    simp only [kys, List.mem_map, List.mem_range] at hk
    obtain ⟨i, hi, rfl⟩ := hk
    unfold textAt at he
    rw [(h.get i hi).1] at he
    simp only [Option.map_some, beq_iff_eq, Option.some.injEq] at he
    exact List.mem_map.2 ⟨L[i], List.getElem_mem hi, he⟩
  · intro hm
    obtain ⟨e, he, hek⟩ := List.mem_map.1 hm
    obtain ⟨i, hi, rfl⟩ := List.mem_iff_getElem.1 he
    refine ⟨P.length + 1 + 2 * i, List.mem_map.2 ⟨i, List.mem_range.2 hi, rfl⟩, ?_⟩
    unfold textAt
    rw [(h.get i hi).1]
    simp only [Option.map_some, beq_iff_eq, Option.some.injEq]
    exact hek
/-- one more entry. -/
theorem Flat.add (h : Flat P L st) (key t : Str) (nodes' : List Nd)
    (hn : nodes' = (st.nodes ++ [(⟨5, key, [], []⟩ : Nd), ⟨5, t, [], []⟩]).set st.node { st.nodes[st.node]'h.lt with keys := (st.nodes[st.node]'h.lt).keys ++ [st.nodes.length], items := (st.nodes[st.node]'h.lt).items ++ [st.nodes.length + 1] })
    (h1 : st'.nodes = nodes') (h2 : st'.node = st.node) : Flat P (L ++ [(key, t)]) st' := by
  refine ⟨?_, by rw [h2, h.node]⟩
  have hm : st.nodes[st.node]'h.lt = ⟨10, [], kys P.length L.length, its P.length L.length⟩ := by
    have h3 : st.nodes[st.node]? = some ⟨10, [], kys P.length L.length, its P.length L.length⟩ := by rw [h.node]; exact h.map
    rw [List.getElem?_eq_getElem h.lt] at h3
    injection h3
  rw [h1, hn, hm, h.node, h.len, h.nodes]
  simp only [List.length_append, List.length_cons, List.length_nil]
  rw [show L.length + (0 + 1) = L.length + 1 from rfl, kys_snoc, its_snoc, eNodes_snoc, List.append_assoc, List.cons_append, List.set_append_right _ _ (Nat.le_refl _), Nat.sub_self, List.set_cons_zero]
  rw [show P.length + 1 + 2 * L.length + 1 = P.length + 2 + 2 * L.length from by omega]
end
/-- where the keys of the spans stand. -/
def kfs (st : St) : List Nat := st.spans.map (·.keyFrom)
theorem kfs_setTo (l : List Sp) (k z : Nat) : (setTo l k z).map (·.keyFrom) = l.map (·.keyFrom) := by
  unfold setTo
  split
  · rename_i s hs
    apply List.ext_getElem?
    intro i
    rw [List.getElem?_map, List.getElem?_map]
    by_cases e : k = i
    · subst e
      have hk := (List.getElem?_eq_some_iff.1 hs).1
      rw [List.getElem?_set_self hk, hs]; rfl
    · rw [List.getElem?_set_ne e]
  · rfl
/-- an entry in a flat state. -/
theorem entry_flat {P : List Nd} {L : List (Str × Str)} {st st' : St} {r : Str} {a : Nat} (hF : Flat P L st) (h : entry st r a = .ok st') :
    ∃ key t, key ∉ L.map (·.1) ∧ Flat P (L ++ [(key, t)]) st' ∧ kfs st' = kfs st ++ [a] ∧ st'.span = st.span ∧
      ∀ P2 L2 st2 d, Flat P2 L2 st2 → P2.length + 2 * L2.length + 3 ≤ 4096 →
        (key ∈ L2.map (·.1) → entry st2 r (a + d) = .err (a + d) 8) ∧
        (key ∉ L2.map (·.1) → ∃ st2', entry st2 r (a + d) = .ok st2' ∧ Flat P2 (L2 ++ [(key, t)]) st2' ∧ kfs st2' = kfs st2 ++ [a + d] ∧ st2'.span = st2.span) := by
  obtain ⟨key, e, i, t, z, h1, h2, h3, h4, h5, h6, h7, h8, h9⟩ := entry_cases h hF.lt
  refine ⟨key, t, ?_, hF.add key t _ rfl h5 h8, ?_, h9, ?_⟩
  · rw [hF.node, hF.keyIn] at h3
    simpa using h3
  · unfold kfs
    rw [h6]
    split
    · rw [kfs_setTo]; simp
    · simp
  · intro P2 L2 st2 d hF2 hm
    have e1 : name r (a + d) 61 = .ok (key, e + d, i + d) := by rw [name_shift, h1]
    have hb : i + d + nB (r.drop (i - a)) = i + nB (r.drop (i - a)) + d := by omega
    have e2 : value ((r.drop (i - a)).drop (nB (r.drop (i - a)))) (i + d + nB (r.drop (i - a))) = .ok (t, z + d) := by rw [hb, value_shift, h2]
    have hent : entry st2 r (a + d) = (match Ini.add st2 st2.node st2.span key ⟨5, t, [], []⟩ ⟨0, 0, 0, i + d + nB (r.drop (i - a)), z + d, a + d, e + d, true⟩ with
        | .err x e => .err x e
        | .ok st' => if st2.span > 0 then .ok { st' with spans := setTo st'.spans st2.span (z + d) } else .ok st') := by
      unfold entry
      rw [e1]
      simp only [Nat.add_sub_add_right]
      rw [e2]
      try rfl
    have hk := hF2.keyIn key
    rw [← hF2.node] at hk
    constructor
    · intro hin
      rw [hent]
      rw [show decide (key ∈ L2.map (·.1)) = true from decide_eq_true hin] at hk
      unfold Ini.add
      rw [if_pos hk]
    · intro hin
      rw [show decide (key ∈ L2.map (·.1)) = false from decide_eq_false hin] at hk
      rcases add_cases st2 st2.node st2.span key ⟨5, t, [], []⟩ ⟨0, 0, 0, i + d + nB (r.drop (i - a)), z + d, a + d, e + d, true⟩ hF2.lt with g | g | ⟨_, _, g⟩
      · unfold Ini.add at g
        rw [if_neg (by rw [hk]; simp)] at g
        split at g
        · cases g
        · rw [List.getElem?_eq_getElem hF2.lt] at g; cases g
      · unfold Ini.add at g
        rw [if_neg (by rw [hk]; simp), if_neg (by rw [hF2.len]; omega), List.getElem?_eq_getElem hF2.lt] at g
        cases g
      · rw [hent, g]
        simp only
        by_cases hs : st2.span > 0
        · rw [if_pos hs]
          exact ⟨_, rfl, hF2.add key t _ rfl rfl rfl, by unfold kfs; simp only [kfs_setTo]; simp, rfl⟩
        · rw [if_neg hs]
          exact ⟨_, rfl, hF2.add key t _ rfl rfl rfl, by unfold kfs; simp, rfl⟩
/-- no section. -/
def NoSec (st : St) : Prop := ∀ j nd, st.nodes[j + 1]? = some nd → nd.kind ≠ 10
theorem kind_stays {l x : List Nd} {k j : Nat} {m nd : Nd} (hk : k < l.length) (hm : m.kind = (l[k]).kind) (h : l[j]? = some nd) : ∃ nd', ((l ++ x).set k m)[j]? = some nd' ∧ nd'.kind = nd.kind := by
  have hj : j < l.length := (List.getElem?_eq_some_iff.1 h).1
  have hjl : (l ++ x)[j]? = some nd := by rw [List.getElem?_append_left hj]; exact h
  by_cases e : k = j
  · subst e
    refine ⟨m, by rw [List.getElem?_set_self (by simp; omega)], ?_⟩
    rw [hm]
    rw [List.getElem?_eq_getElem hj] at h
    injection h with h; rw [h]
  · exact ⟨nd, by rw [List.getElem?_set_ne e]; exact hjl, rfl⟩
theorem line_kinds {st st' : St} {r : Str} {a : Nat} (hg : Good st) (h : line st r a = .ok st') {j : Nat} {nd : Nd} (hj : st.nodes[j]? = some nd) : ∃ nd', st'.nodes[j]? = some nd' ∧ nd'.kind = nd.kind := by
  unfold line at h
  simp only at h
  split at h
  · injection h with h; subst h; exact ⟨nd, hj, rfl⟩
  · split at h
    · injection h with h; subst h; exact ⟨nd, hj, rfl⟩
    · split at h
      · obtain ⟨t, e, i, h1, h2, h3, h4, h5, _⟩ := header_cases h hg.1
        rw [h5]; exact kind_stays hg.1 rfl hj
      · obtain ⟨key, e, i, t, z, h1, h2, h3, h4, h5, _⟩ := entry_cases h hg.2
        rw [h5]; exact kind_stays hg.2 rfl hj
theorem run_kinds {st st' : St} {r : Str} {a : Nat} (hg : Good st) (h : run st r a = .ok st') {j : Nat} {nd : Nd} (hj : st.nodes[j]? = some nd) : ∃ nd', st'.nodes[j]? = some nd' ∧ nd'.kind = nd.kind := by
  generalize hn : r.length = n
  induction n using Nat.strongRecOn generalizing st r a nd with
  | ind n ih =>
    rcases split_cases r with h1 | ⟨l, q, rfl, h1⟩
    · rw [run_last _ _ _ h1] at h
      exact line_kinds hg h hj
    · rw [run_line _ _ _ _ h1] at h
      cases hl : Ini.line st (cr l) a with
      | err x e => rw [hl] at h; cases h
      | ok s1 =>
        rw [hl] at h
        simp only [List.length_append, List.length_cons] at hn
        obtain ⟨nd1, k1, k2⟩ := line_kinds hg hl hj
        obtain ⟨nd2, k3, k4⟩ := ih q.length (by omega) (line_good hl hg) h k1 rfl
        exact ⟨nd2, k3, k4.trans k2⟩
theorem header_kind {st st' : St} {r : Str} {a : Nat} (h : header st r a = .ok st') (hn : 0 < st.nodes.length) : ∃ j nd, st'.nodes[j + 1]? = some nd ∧ nd.kind = 10 := by
  obtain ⟨t, e, i, h1, h2, h3, h4, h5, _⟩ := header_cases h hn
  refine ⟨st.nodes.length, ⟨10, [], [], []⟩, ?_, rfl⟩
  rw [h5, List.getElem?_set_ne (by omega), List.getElem?_append_right (by omega)]
  simp
/-- what a line without section does, here and elsewhere. -/
theorem line_flat {L : List (Str × Str)} {st st' : St} {r : Str} {a : Nat} (hF : Flat [] L st) (h : line st r a = .ok st') (hns : NoSec st') :
    ∃ L2 K2, L2.length = K2.length ∧ L2.length ≤ 1 ∧ L2.length ≤ r.length ∧ (∀ e ∈ L2, e.1 ∉ L.map (·.1)) ∧ Flat [] (L ++ L2) st' ∧ kfs st' = kfs st ++ K2 ∧ st'.span = st.span ∧
      ∀ Lx stx d, Flat [] Lx stx → 2 * (Lx.length + L2.length) + 3 ≤ 4096 →
        ((∀ e ∈ L2, e.1 ∉ Lx.map (·.1)) → ∃ stx', line stx r (a + d) = .ok stx' ∧ Flat [] (Lx ++ L2) stx' ∧ kfs stx' = kfs stx ++ K2.map (· + d) ∧ stx'.span = stx.span) ∧
        (∀ i (h1 : i < L2.length) (h2 : i < K2.length), L2[i].1 ∈ Lx.map (·.1) → (∀ j (h3 : j < L2.length), j < i → L2[j].1 ∉ Lx.map (·.1)) → line stx r (a + d) = .err (K2[i] + d) 8) := by
  unfold line at h
  simp only at h
  split at h
  · rename_i hq
    injection h with h; subst h
    refine ⟨[], [], rfl, by simp, by simp, by simp, by simpa using hF, by simp, rfl, fun Lx stx d hFx _ => ⟨fun _ => ⟨stx, ?_, by simpa using hFx, by simp, rfl⟩, fun i h1 => by simp at h1⟩⟩
    unfold line; simp only [hq]
  · rename_i c y hq
    split at h
    · rename_i hc
      injection h with h; subst h
      refine ⟨[], [], rfl, by simp, by simp, by simp, by rw [List.append_nil]; exact ⟨hF.nodes, hF.node⟩, by simp [kfs], rfl, fun Lx stx d hFx _ => ⟨fun _ => ⟨{ stx with notes := stx.notes ++ [⟨a + d + nB r, a + d + r.length, r.drop (nB r)⟩] }, ?_, by rw [List.append_nil]; exact ⟨hFx.nodes, hFx.node⟩, by simp [kfs], rfl⟩, fun i h1 => by simp at h1⟩⟩
      unfold line; simp only [hq, if_pos hc]
    · rename_i hc
      split at h
      · obtain ⟨j, nd, h1, h2⟩ := header_kind h (by rw [hF.len]; omega)
        exact absurd h2 (hns j nd h1)
      · rename_i hc2
        obtain ⟨key, t, k1, k2, k3, k4, k5⟩ := entry_flat hF h
        refine ⟨[(key, t)], [a + nB r], rfl, by simp, ?_, by simpa using k1, k2, k3, k4, fun Lx stx d hFx hm => ?_⟩
        · have := congrArg List.length hq
          simp only [List.length_drop, List.length_cons] at this
          simp; omega
        · have hline : line stx r (a + d) = entry stx (r.drop (nB r)) (a + nB r + d) := by
            unfold line
            simp only [hq, if_neg hc, if_neg hc2]
            rw [show a + d + nB r = a + nB r + d from by omega]
          obtain ⟨m1, m2⟩ := k5 [] Lx stx d hFx (by simp at hm ⊢; omega)
          constructor
          · intro hall
            obtain ⟨stx', n1, n2, n3, n4⟩ := m2 (hall (key, t) (by simp))
            exact ⟨stx', by rw [hline, n1], n2, by rw [n3]; rfl, n4⟩
          · intro i h1 h2 hin _
            have : i = 0 := by simp at h1; exact h1
            subst this
            rw [hline, m1 hin]; rfl
theorem run_flat {L : List (Str × Str)} {st st' : St} {r : Str} {a : Nat} (hF : Flat [] L st) (h : run st r a = .ok st') (hns : NoSec st') :
    ∃ L2 K2, L2.length = K2.length ∧ L2.length ≤ r.length ∧ (∀ e ∈ L2, e.1 ∉ L.map (·.1)) ∧ Flat [] (L ++ L2) st' ∧ kfs st' = kfs st ++ K2 ∧ st'.span = st.span ∧
      ∀ Lx stx d, Flat [] Lx stx → 2 * (Lx.length + L2.length) + 3 ≤ 4096 →
        ((∀ e ∈ L2, e.1 ∉ Lx.map (·.1)) → ∃ stx', run stx r (a + d) = .ok stx' ∧ Flat [] (Lx ++ L2) stx' ∧ kfs stx' = kfs stx ++ K2.map (· + d) ∧ stx'.span = stx.span) ∧
        (∀ i (h1 : i < L2.length) (h2 : i < K2.length), L2[i].1 ∈ Lx.map (·.1) → (∀ j (h3 : j < L2.length), j < i → L2[j].1 ∉ Lx.map (·.1)) → run stx r (a + d) = .err (K2[i] + d) 8) := by
  generalize hn : r.length = n
  induction n using Nat.strongRecOn generalizing st r a L with
  | ind n ih =>
    rcases split_cases r with h1 | ⟨l, q, rfl, h1⟩
    · rw [run_last _ _ _ h1] at h
      obtain ⟨L2, K2, j1, j2, j3, j4, j5, j6, j7, j8⟩ := line_flat hF h hns
      refine ⟨L2, K2, j1, by omega, j4, j5, j6, j7, fun Lx stx d hFx hm => ?_⟩
      obtain ⟨m1, m2⟩ := j8 Lx stx d hFx hm
      rw [run_last _ _ _ h1]
      exact ⟨m1, m2⟩
    · rw [run_line _ _ _ _ h1] at h
      cases hl : Ini.line st (cr l) a with
      | err x e => rw [hl] at h; cases h
      | ok s1 =>
        rw [hl] at h
        have h : run s1 q (a + l.length + 1) = .ok st' := h
        simp only [List.length_append, List.length_cons] at hn
        have hg : Good st := ⟨by rw [hF.len]; omega, hF.lt⟩
        have hns1 : NoSec s1 := by
          intro j nd hj hk
          obtain ⟨nd', k1, k2⟩ := run_kinds (line_good hl hg) h hj
          exact hns j nd' k1 (k2.trans hk)
        obtain ⟨L2, K2, j1, j2, j3, j4, j5, j6, j7, j8⟩ := line_flat hF hl hns1
        obtain ⟨L3, K3, i1, i2, i3, i4, i5, i6, i7⟩ := ih q.length (by omega) j5 h rfl
        have hcr := cr_le l
        refine ⟨L2 ++ L3, K2 ++ K3, by simp [j1, i1], by rw [List.length_append]; omega, ?_, by rw [← List.append_assoc]; exact i4, by rw [i5, j6, List.append_assoc], by rw [i6, j7], ?_⟩
        · intro e he
          rcases List.mem_append.1 he with he | he
          · exact j4 e he
          · intro hm; exact i3 e he (by rw [List.map_append]; exact List.mem_append_left _ hm)
        · intro Lx stx d hFx hm
          rw [List.length_append] at hm
          obtain ⟨m1, m2⟩ := j8 Lx stx d hFx (by omega)
          rw [run_line _ _ _ _ h1]
          have hstep : (∀ e ∈ L2, e.1 ∉ Lx.map (·.1)) → ∃ sx, line stx (cr l) (a + d) = .ok sx ∧ Flat [] (Lx ++ L2) sx ∧ kfs sx = kfs stx ++ K2.map (· + d) ∧ sx.span = stx.span ∧
              ((line stx (cr l) (a + d)).bind' fun st' => run st' q (a + d + l.length + 1)) = run sx q (a + l.length + 1 + d) := by
            intro hall
            obtain ⟨sx, n1, n2, n3, n4⟩ := m1 hall
            refine ⟨sx, n1, n2, n3, n4, ?_⟩
            rw [n1]
            show run sx q _ = _
            rw [show a + d + l.length + 1 = a + l.length + 1 + d from by omega]
          constructor
          · intro hall
            obtain ⟨sx, n1, n2, n3, n4, n5⟩ := hstep (fun e he => hall e (List.mem_append_left _ he))
            rw [n5]
            obtain ⟨p1, _⟩ := i7 (Lx ++ L2) sx d n2 (by rw [List.length_append]; omega)
            obtain ⟨sx2, q1, q2, q3, q4⟩ := p1 (fun e he hm2 => by
              rw [List.map_append] at hm2
              rcases List.mem_append.1 hm2 with hm2 | hm2
              · exact hall e (List.mem_append_right _ he) hm2
              · exact i3 e he (by rw [List.map_append]; exact List.mem_append_right _ hm2))
            exact ⟨sx2, q1, by rw [← List.append_assoc]; exact q2, by rw [q3, n3, List.map_append, List.append_assoc], by rw [q4, n4]⟩
          · intro i hi hi2 hin hno
            by_cases hlt : i < L2.length
            · rw [List.getElem_append_left hlt] at hin
              have e := m2 i hlt (by omega) hin (fun j h3 hj => by
                have := hno j (by rw [List.length_append]; omega) hj
                rwa [List.getElem_append_left h3] at this)
              rw [e, List.getElem_append_left (by omega)]; rfl
            · have hL2 : ∀ e ∈ L2, e.1 ∉ Lx.map (·.1) := by
                intro e he
                obtain ⟨j, hj, rfl⟩ := List.mem_iff_getElem.1 he
                have := hno j (by rw [List.length_append]; omega) (by omega)
                rwa [List.getElem_append_left hj] at this
              obtain ⟨sx, n1, n2, n3, n4, n5⟩ := hstep hL2
              rw [n5]
              obtain ⟨_, p2⟩ := i7 (Lx ++ L2) sx d n2 (by rw [List.length_append]; omega)
              rw [List.length_append] at hi hi2
              rw [List.getElem_append_right (by omega)] at hin
              have e := p2 (i - L2.length) (by omega) (by omega) (by rw [List.map_append]; exact List.mem_append_left _ hin) (fun j h3 hj hm2 => by
                rw [List.map_append] at hm2
                rcases List.mem_append.1 hm2 with hm2 | hm2
                · have := hno (L2.length + j) (by rw [List.length_append]; omega) (by omega)
                  rw [List.getElem_append_right (by omega)] at this
                  apply this
                  have e0 : L2.length + j - L2.length = j := by omega
                  simp only [e0]; exact hm2
                · exact i3 _ (List.getElem_mem h3) (by rw [List.map_append]; exact List.mem_append_right _ hm2))
              rw [e, List.getElem_append_right (by omega)]
              simp only [j1]
theorem start_flat (n : Nat) : Flat [] [] (start n) := ⟨rfl, rfl⟩
theorem parse_ok {s : Str} {st : St} (hl : s.length ≤ 65536) (h : parse s = .ok st) : bad s = none ∧ ctl s 0 = none ∧ run (start s.length) s 0 = .ok st := by
  rw [parse_eq s hl] at h
  cases hb : bad s with
  | some x => rw [hb] at h; cases h
  | none =>
    rw [hb] at h
    simp only at h
    cases hc : ctl s 0 with
    | some x => rw [hc] at h; cases h
    | none => rw [hc] at h; exact ⟨rfl, rfl, h⟩
/-- THE PLAIN LAW of IniJoins. -/
theorem joins_law {a b : Str} {c d : St} (ha : a.length ≤ 300) (hb : b.length ≤ 300) (hc : parse (a ++ [10]) = .ok c) (hd : parse b = .ok d) (sc : NoSec c) (sd : NoSec d) :
    ∃ P Q K, Flat [] P c ∧ Flat [] Q d ∧ c.spans.length = P.length + 1 ∧ d.spans.length = Q.length + 1 ∧ P.length ≤ 301 ∧ Q.length ≤ 300 ∧ Q.length = K.length ∧ kfs d = 0 :: K ∧
      ((∀ e ∈ Q, e.1 ∉ P.map (·.1)) → ∃ x, parse (a ++ [10] ++ b) = .ok x ∧ Flat [] (P ++ Q) x ∧ x.spans.length = P.length + Q.length + 1) ∧
      (∀ i (h1 : i < Q.length) (h2 : i < K.length), Q[i].1 ∈ P.map (·.1) → (∀ j (h3 : j < Q.length), j < i → Q[j].1 ∉ P.map (·.1)) → parse (a ++ [10] ++ b) = .err (K[i] + (a.length + 1)) 8) := by
  obtain ⟨b1, c1, r1⟩ := parse_ok (by simp; omega) hc
  obtain ⟨b2, c2, r2⟩ := parse_ok (by omega) hd
  obtain ⟨P, K1, p1, p2, _, p4, p5, _, p7⟩ := run_flat (start_flat _) r1 sc
  obtain ⟨Q, K, q1, q2, _, q4, q5, _, q7⟩ := run_flat (start_flat _) r2 sd
  rw [List.nil_append] at p4 q4
  have hla : (a ++ [10]).length = a.length + 1 := by simp
  obtain ⟨x0, x1, x2, x3, x4⟩ := (p7 [] (start (a ++ [10] ++ b).length) 0 (start_flat _) (by simp; omega)).1 (by simp)
  have hp : parse (a ++ [10] ++ b) = run x0 b (0 + (a.length + 1)) := by
    rw [parse_eq _ (by simp; omega)]
    have e : a ++ [10] ++ b = a ++ 10 :: b := by simp
    have hbad : bad (a ++ 10 :: b) = none := by
      rw [bad_end] at b1
      rw [bad_app a b 10 (by decide), b1, b2]; rfl
    have hctl : ctl (a ++ 10 :: b) 0 = none := (ctl_part a b 0).2 ⟨c1, c2⟩
    rw [e, hbad, hctl]
    simp only
    rw [run_join]
    rw [← e]
    have x1 : run (start (a ++ [10] ++ b).length) (a ++ [10]) 0 = .ok x0 := x1
    rw [x1]
    show run x0 b _ = _
    rw [Nat.add_assoc]
  have k0 : ∀ n, kfs (start n) = [0] := fun n => rfl
  have kl : ∀ s : St, (kfs s).length = s.spans.length := fun s => by simp [kfs]
  rw [List.nil_append] at x2
  obtain ⟨m1, m2⟩ := q7 P x0 (a.length + 1) x2 (by omega)
  refine ⟨P, Q, K, p4, q4, ?_, ?_, by omega, Nat.le_trans q2 hb, q1, by rw [q5, k0]; rfl, ?_, ?_⟩
  · rw [← kl, p5, k0, p1]; simp
  · rw [← kl, q5, k0, q1]; simp
  · intro hall
    obtain ⟨x, y1, y2, y3, y4⟩ := m1 hall
    refine ⟨x, by rw [hp, y1], y2, ?_⟩
    rw [← kl, y3, x3, k0, p1, q1]; simp
  · intro i h1 h2 hin hno
    rw [hp, m2 i h1 h2 hin hno]
end Ini
end Go.Proofs.YtegdemnfjmaicaaDoor
namespace Go.Proofs.YtegdemnfjmaicaaDoor
namespace Ini
def lowHex : Str := [48, 49, 50, 51, 52, 53, 54, 55, 56, 57, 97, 98, 99, 100, 101, 102]
def upHex : Str := [48, 49, 50, 51, 52, 53, 54, 55, 56, 57, 65, 66, 67, 68, 69, 70]
/-- a byte as it is written in quotes. -/
def qc (c : UInt8) : Str :=
  if c = 92 ∨ c = 34 then [92, c]
  else if c = 10 then [92, 110]
  else if c < 32 then [92, 117, 123, lowHex.getD (c.toNat / 16) 0, upHex.getD (c.toNat % 16) 0, 125]
  else [c]
def qs : Str → Str
  | [] => []
  | c :: s => qc c ++ qs s
def quote (s : Str) : Str := 34 :: (qs s ++ [34])
theorem qc_len (c : UInt8) : (qc c).length ≤ 6 := by
  unfold qc; repeat' split
  all_goals simp
theorem qs_len (s : Str) : (qs s).length ≤ 6 * s.length := by
  induction s with
  | nil => simp [qs]
  | cons c s ih => have := qc_len c; simp only [qs, List.length_append, List.length_cons]; omega
theorem qs_snoc (s : Str) (c : UInt8) : qs (s ++ [c]) = qs s ++ qc c := by
  induction s with
  | nil => simp [qs]
  | cons d s ih => simp [qs, ih]
theorem low_facts : ∀ n, n < 32 → let c := UInt8.ofNat n
    isHex (lowHex.getD (c.toNat / 16) 0) = true ∧ isHex (upHex.getD (c.toNat % 16) 0) = true ∧ hexVal [lowHex.getD (c.toNat / 16) 0, upHex.getD (c.toNat % 16) 0] = c.toNat ∧
      32 ≤ (lowHex.getD (c.toNat / 16) 0).toNat ∧ 32 ≤ (upHex.getD (c.toNat % 16) 0).toNat ∧ (lowHex.getD (c.toNat / 16) 0).toNat < 128 ∧ (upHex.getD (c.toNat % 16) 0).toNat < 128 := by decide
theorem low_c (c : UInt8) (h : c < 32) : isHex (lowHex.getD (c.toNat / 16) 0) = true ∧ isHex (upHex.getD (c.toNat % 16) 0) = true ∧ hexVal [lowHex.getD (c.toNat / 16) 0, upHex.getD (c.toNat % 16) 0] = c.toNat ∧
      32 ≤ (lowHex.getD (c.toNat / 16) 0).toNat ∧ 32 ≤ (upHex.getD (c.toNat % 16) 0).toNat ∧ (lowHex.getD (c.toNat / 16) 0).toNat < 128 ∧ (upHex.getD (c.toNat % 16) 0).toNat < 128 := by
  have h1 : c.toNat < 32 := UInt8.lt_iff_toNat_lt.1 h
  have := low_facts c.toNat h1
  simp only [UInt8.ofNat_toNat] at this
  exact this
theorem Q_qc (c : UInt8) (z : Str) (b : Nat) (acc : Str) : Q (qc c ++ z) b acc = Q z (b + (qc c).length) (acc ++ [c]) := by
  unfold qc
  by_cases h1 : c = 92 ∨ c = 34
  · rw [if_pos h1]
    show Q (92 :: c :: z) b acc = _
    rw [Q_esc]
    have e : esc (92 :: c :: z) = .ok ([c], 2) := by simp only [esc, List.drop_succ_cons, List.drop_zero, if_pos h1]
    rw [e]; rfl
  · rw [if_neg h1]
    by_cases h2 : c = 10
    · subst h2
      rw [if_pos rfl]
      show Q (92 :: 110 :: z) b acc = _
      rw [Q_esc]
      rfl
    · rw [if_neg h2]
      by_cases h3 : c < 32
      · rw [if_pos h3]
        obtain ⟨a1, a2, a3, _⟩ := low_c c h3
        revert a1 a2 a3
        generalize lowHex.getD (c.toNat / 16) 0 = x
        generalize upHex.getD (c.toNat % 16) 0 = y
        intro a1 a2 a3
        show Q (92 :: 117 :: 123 :: x :: y :: 125 :: z) b acc = _
        rw [Q_esc]
        have ht : ((x :: y :: 125 :: z).take 6).takeWhile isHex = [x, y] := by
          simp only [List.take_succ_cons, List.takeWhile_cons, a1, a2, if_true]
          rw [show isHex 125 = false from by decide]; simp
        have hc32 : c.toNat < 32 := UInt8.lt_iff_toNat_lt.1 h3
        have hs : isScalar c.toNat = true := by unfold isScalar; simp; omega
        have e : esc (92 :: 117 :: 123 :: x :: y :: 125 :: z) = .ok ([c], 6) := by
          have eu : esc (92 :: 117 :: 123 :: x :: y :: 125 :: z) = (match ((x :: y :: 125 :: z).take 6).takeWhile isHex, (x :: y :: 125 :: z).drop (((x :: y :: 125 :: z).take 6).takeWhile isHex).length with
                      | [], _ => .err 0 4
                      | _ :: _, [] => .err 0 4
                      | _ :: _, z' :: _ => if z' ≠ 125 then .err 0 4 else if isScalar (hexVal (((x :: y :: 125 :: z).take 6).takeWhile isHex)) then .ok (enc (hexVal (((x :: y :: 125 :: z).take 6).takeWhile isHex)), (((x :: y :: 125 :: z).take 6).takeWhile isHex).length + 4) else .err 0 11) := rfl
          rw [eu, ht]
          show (if (125 : UInt8) ≠ 125 then _ else if isScalar (hexVal [x, y]) = true then Res.ok (enc (hexVal [x, y]), 6) else _) = _
          rw [if_neg (by decide), a3, if_pos hs]
          unfold enc
          rw [if_pos (by omega)]
          simp
        rw [e]; rfl
      · rw [if_neg h3]
        simp only [not_or] at h1
        exact Q_byte c z b acc h1.2 h1.1
theorem Q_qs (s z : Str) (b : Nat) (acc : Str) : Q (qs s ++ 34 :: z) b acc = .ok (acc ++ s, b + (qs s).length + 1) := by
  induction s generalizing b acc with
  | nil => simp [qs, Q_end]
  | cons c s ih =>
    simp only [qs]
    rw [List.append_assoc, Q_qc, ih]
    simp; omega
theorem quoted_quote (s z : Str) (b : Nat) : quoted (quote s ++ z) b = .ok (s, b + (quote s).length) := by
  unfold quote
  rw [List.cons_append, quoted_Q, List.append_assoc, List.singleton_append, Q_qs]
  simp; omega
theorem bad_ascii (A t : Str) (hA : ∀ c ∈ A, c.toNat < 128) (ht : bad t = none) : bad (A ++ t) = none := by
  induction A with
  | nil => exact ht
  | cons c A ih =>
    rw [List.cons_append, bad_cons _ _ (hA c (by simp)), ih (fun d hd => hA d (by simp [hd]))]; rfl
theorem bad_mid (x A t : Str) (hx : bad x = none) (hA : ∀ c ∈ A, c.toNat < 128) (h0 : A ≠ []) (ht : bad t = none) : bad (x ++ A ++ t) = none := by
  cases A with
  | nil => exact absurd rfl h0
  | cons c A =>
    rw [List.append_assoc, List.cons_append, bad_app _ _ _ (hA c (by simp)), hx, bad_ascii A t (fun d hd => hA d (by simp [hd])) ht]; rfl
theorem qc_same_or (c : UInt8) : qc c = [c] ∨ (c.toNat < 128 ∧ (∀ d ∈ qc c, d.toNat < 128) ∧ qc c ≠ []) := by
  unfold qc
  split
  · rename_i h
    right
    refine ⟨by rcases h with rfl | rfl <;> decide, ?_, by simp⟩
    intro d hd
    simp at hd
    rcases hd with rfl | rfl
    · decide
    · rcases h with rfl | rfl <;> decide
  · split
    · rename_i h
      right
      subst h
      refine ⟨by decide, by decide, by simp⟩
    · split
      · rename_i h
        right
        obtain ⟨a1, a2, a3, a4, a5, a6, a7⟩ := low_c c h
        have h1 : c.toNat < 32 := UInt8.lt_iff_toNat_lt.1 h
        refine ⟨by omega, ?_, by simp⟩
        intro d hd
        simp only [List.mem_cons, List.not_mem_nil, or_false] at hd
        rcases hd with rfl | rfl | rfl | rfl | rfl | rfl
        · decide
        · decide
        · decide
        · exact a6
        · exact a7
        · decide
      · left; rfl
theorem bad_qs (x s : Str) (h : bad (x ++ s) = none) : bad (x ++ qs s) = none := by
  induction s generalizing x with
  | nil => exact h
  | cons c s ih =>
    simp only [qs]
    rcases qc_same_or c with e | ⟨e1, e2, e3⟩
    · rw [e, ← List.append_assoc]
      exact ih (x ++ [c]) (by simpa using h)
    · have hs : bad s = none := bad_tail e1 h
      have hx : bad x = none := bad_cut h (.inr ⟨c, s, rfl, e1⟩)
      rw [← List.append_assoc]
      exact bad_mid x (qc c) (qs s) hx e2 e3 (by simpa using ih [] (by simpa using hs))
theorem bad_quote {s : Str} (h : bad s = none) : bad (quote s) = none := by
  unfold quote
  rw [bad_cons _ _ (by decide), bad_app _ [] 34 (by decide), show bad (qs s) = none from by simpa using bad_qs [] s (by simpa using h)]
  rfl
/-- quoted pieces divide. -/
theorem bad_join {x y : Str} {c : UInt8} (hc : c.toNat < 128) (hx : bad x = none) (hy : bad y = none) : bad (x ++ c :: y) = none := by
  rw [bad_app _ _ _ hc, hx, hy]; rfl
theorem bad_quote_app {s t : Str} (h : bad s = none) (ht : bad t = none) : bad (quote s ++ t) = none := by
  unfold quote
  rw [List.cons_append, List.append_assoc, List.singleton_append, bad_cons _ _ (by decide)]
  rw [bad_join (by decide) (by simpa using bad_qs [] s (by simpa using h)) ht]; rfl
theorem cl_qc (c : UInt8) : Cl (qc c) := by
  unfold qc
  split
  · rename_i h
    intro d hd
    simp at hd
    left
    rcases hd with rfl | rfl
    · decide
    · rcases h with rfl | rfl <;> decide
  · split
    · intro d hd
      simp at hd
      left
      rcases hd with rfl | rfl <;> decide
    · split
      · rename_i h
        obtain ⟨a1, a2, a3, a4, a5, a6, a7⟩ := low_c c h
        intro d hd
        left
        simp only [List.mem_cons, List.not_mem_nil, or_false] at hd
        rcases hd with rfl | rfl | rfl | rfl | rfl | rfl
        · decide
        · decide
        · decide
        · exact a4
        · exact a5
        · decide
      · rename_i h
        intro d hd
        simp at hd
        subst hd
        left
        have : ¬ d.toNat < 32 := fun h2 => h (UInt8.lt_iff_toNat_lt.2 h2)
        omega
theorem Cl.app {x y : Str} (hx : Cl x) (hy : Cl y) : Cl (x ++ y) := fun c hc => by
  rcases List.mem_append.1 hc with h | h
  · exact hx c h
  · exact hy c h
theorem cl_qs (s : Str) : Cl (qs s) := by
  induction s with
  | nil => intro c hc; cases hc
  | cons c s ih => exact (cl_qc c).app ih
theorem cl_lit {l : Str} (h : l.all (fun c => decide (32 ≤ c.toNat) || c == 9) = true) : Cl l := by
  intro c hc
  have := List.all_eq_true.1 h c hc
  simpa using this
theorem cl_quote (s : Str) : Cl (quote s) := by
  unfold quote
  rw [← List.singleton_append]
  exact (cl_lit (by decide)).app ((cl_qs s).app (cl_lit (by decide)))
theorem ctl_clean_app {y : Str} (h : Cl y) (z : Str) (i : Nat) (hz : ctl z 0 = none) : ctl (y ++ z) i = none := by
  induction y generalizing i with
  | nil => exact ctl_none _ _ _ hz
  | cons c y ih =>
    rw [List.cons_append, ctl_cons, if_neg]
    · exact ih (fun d hd => h d (by simp [hd])) _
    · intro hif
      simp only [Bool.and_eq_true, decide_eq_true_eq, bne_iff_ne, ne_eq] at hif
      rcases h c (by simp) with h1 | h1
      · exact absurd (UInt8.lt_iff_toNat_lt.1 hif.1.1) (by simp; omega)
      · exact hif.1.2 h1
theorem quote_head (s z : Str) : (quote s ++ z).head? = some 34 := rfl
theorem nB_quote (s z : Str) : nB (quote s ++ z) = 0 := by unfold quote; rw [List.cons_append, nB_cons]; rfl
/-- an entry's line. -/
def qline (e : Str × Str) : Str := quote e.1 ++ 61 :: quote e.2
def qlines : List (Str × Str) → Str
  | [] => []
  | e :: L => qline e ++ 10 :: qlines L
def qhead (name : Str) : Str := 32 :: 91 :: 9 :: (quote name ++ [32, 93])
def qsrc (name : Str) (L : List (Str × Str)) : Str := (qhead name ++ [13]) ++ 10 :: qlines L
theorem cl_qline (e : Str × Str) : Cl (qline e) := by
  unfold qline
  rw [← List.singleton_append]
  exact (cl_quote _).app ((cl_lit (by decide)).app (cl_quote _))
theorem cl_qhead (n : Str) : Cl (qhead n) := by
  unfold qhead
  exact (cl_lit (l := [32, 91, 9]) (by decide)).app ((cl_quote _).app (cl_lit (by decide)))
theorem line_q {P : List Nd} {L : List (Str × Str)} {st : St} (hF : Flat P L st) (e : Str × Str) (a : Nat) (hm : P.length + 2 * L.length + 3 ≤ 4096) (hk : e.1 ∉ L.map (·.1)) :
    ∃ st', line st (qline e) a = .ok st' ∧ Flat P (L ++ [e]) st' := by
  have hname : name (qline e) a 61 = .ok (e.1, a + (quote e.1).length, a + (quote e.1).length + 1) := by
    unfold name qline
    rw [if_pos (quote_head _ _), quoted_quote]
    simp only
    rw [Nat.add_sub_cancel_left, List.drop_left, show nB (61 :: quote e.2) = 0 from by rw [nB_cons]; rfl]
    simp
  have hd : (qline e).drop (a + (quote e.1).length + 1 - a) = quote e.2 := by
    unfold qline
    rw [show a + (quote e.1).length + 1 - a = (quote e.1).length + 1 from by omega, List.drop_append]
    simp
  have hval : ∀ b, value (quote e.2) b = .ok (e.2, b + (quote e.2).length) := by
    intro b
    have h := quoted_quote e.2 [] b
    rw [List.append_nil] at h
    unfold value
    rw [if_pos (show (quote e.2).head? = some 34 from rfl), h]
    simp only
    rw [Nat.add_sub_cancel_left, List.drop_length, if_neg (by simp [nB])]
  have hline : line st (qline e) a = entry st (qline e) a := by
    unfold line
    have h0 : nB (qline e) = 0 := by unfold qline; exact nB_quote _ _
    rw [h0, List.drop_zero]
    simp only
    have hq : qline e = 34 :: (qs e.1 ++ [34] ++ 61 :: quote e.2) := by unfold qline quote; simp
    conv => lhs; rw [hq]
    simp only
    rw [if_neg (by decide), if_neg (by decide), ← hq]; rfl
  have hq0 : nB (quote e.2) = 0 := by have := nB_quote e.2 []; rwa [List.append_nil] at this
  have hent : entry st (qline e) a = (match Ini.add st st.node st.span e.1 ⟨5, e.2, [], []⟩ ⟨0, 0, 0, a + (quote e.1).length + 1, a + (quote e.1).length + 1 + (quote e.2).length, a, a + (quote e.1).length, true⟩ with
        | .err x e => .err x e
        | .ok st' => if st.span > 0 then .ok { st' with spans := setTo st'.spans st.span (a + (quote e.1).length + 1 + (quote e.2).length) } else .ok st') := by
    unfold entry
    rw [hname]
    simp only
    rw [hd, hq0, List.drop_zero, Nat.add_zero, hval]
    try rfl
  have hkin := hF.keyIn e.1
  rw [← hF.node, show decide (e.1 ∈ L.map (·.1)) = false from decide_eq_false hk] at hkin
  rcases add_cases st st.node st.span e.1 ⟨5, e.2, [], []⟩ ⟨0, 0, 0, a + (quote e.1).length + 1, a + (quote e.1).length + 1 + (quote e.2).length, a, a + (quote e.1).length, true⟩ hF.lt with g | g | ⟨_, _, g⟩
  · unfold Ini.add at g
    rw [if_neg (by rw [hkin]; simp)] at g
    split at g
    · cases g
    · rw [List.getElem?_eq_getElem hF.lt] at g; cases g
  · unfold Ini.add at g
    rw [if_neg (by rw [hkin]; simp), if_neg (by rw [hF.len]; omega), List.getElem?_eq_getElem hF.lt] at g
    cases g
  · rw [hline, hent, g]
    simp only
    by_cases hs : st.span > 0
    · rw [if_pos hs]
      exact ⟨_, rfl, hF.add e.1 e.2 _ rfl rfl rfl⟩
    · rw [if_neg hs]
      exact ⟨_, rfl, hF.add e.1 e.2 _ rfl rfl rfl⟩
theorem run_q {P : List Nd} (M L : List (Str × Str)) {st : St} (hF : Flat P L st) (a : Nat) (hm : P.length + 2 * (L.length + M.length) + 3 ≤ 4096) (hd : (L ++ M).Pairwise (fun e f => e.1 ≠ f.1)) :
    ∃ st', run st (qlines M) a = .ok st' ∧ Flat P (L ++ M) st' := by
  induction M generalizing L st a with
  | nil => exact ⟨st, run_nil _ _, by simpa using hF⟩
  | cons e M ih =>
    have hk : e.1 ∉ L.map (·.1) := by
      intro hmem
      obtain ⟨f, hf, he⟩ := List.mem_map.1 hmem
      exact (List.pairwise_append.1 hd).2.2 f hf e (by simp) he
    simp only [List.length_cons] at hm
    obtain ⟨s1, h1, h2⟩ := line_q hF e a (by omega) hk
    simp only [qlines]
    rw [run_line _ _ _ _ (cl_qline e).no10, cr_self _ (fun h => by rcases cl_qline e 13 (List.mem_of_getLast? h) with h | h <;> simp at h), h1]
    obtain ⟨s2, h3, h4⟩ := ih (L ++ [e]) h2 (a + (qline e).length + 1) (by simp; omega) (by simpa using hd)
    exact ⟨s2, h3, by simpa using h4⟩
theorem line_head (n : Nat) (name : Str) : ∃ st, line (start n) (qhead name) 0 = .ok st ∧ Flat [⟨10, [], [1], [2]⟩, ⟨5, name, [], []⟩] [] st := by
  have hline : line (start n) (qhead name) 0 = header (start n) (91 :: 9 :: (quote name ++ [32, 93])) 1 := by
    unfold line
    have h0 : nB (qhead name) = 1 := by unfold qhead; rw [nB_cons, if_pos (by decide), nB_cons]; rfl
    rw [h0]
    rfl
  have hnb : nB (9 :: (quote name ++ [32, 93])) = 1 := by rw [nB_cons, if_pos (by decide), nB_quote]
  have hname : Ini.name (quote name ++ [32, 93]) 3 93 = .ok (name, 3 + (quote name).length, 3 + (quote name).length + 2) := by
    unfold Ini.name
    rw [if_pos (quote_head _ _), quoted_quote]
    simp only
    rw [Nat.add_sub_cancel_left, List.drop_left]
    rfl
  rw [hline]
  unfold header
  simp only [List.drop_succ_cons, List.drop_zero]
  rw [hnb, List.drop_succ_cons, List.drop_zero, hname]
  simp only
  have hd : (91 :: 9 :: (quote name ++ [32, 93])).drop (3 + (quote name).length + 2 - 1) = [] := by
    apply List.drop_of_length_le
    simp; omega
  rw [hd, if_neg (by simp [nB])]
  exact ⟨_, rfl, rfl, rfl⟩
theorem qlines_len (L : List (Str × Str)) (h : ∀ e ∈ L, e.1.length ≤ 100 ∧ e.2.length ≤ 100) : (qlines L).length ≤ 1300 * L.length := by
  induction L with
  | nil => simp [qlines]
  | cons e L ih =>
    have := ih (fun f hf => h f (by simp [hf]))
    have h1 := h e (by simp)
    have h2 := qs_len e.1
    have h3 := qs_len e.2
    simp only [qlines, qline, quote, List.length_append, List.length_cons, List.length_nil]
    omega
theorem qlines_bad (L : List (Str × Str)) (h : ∀ e ∈ L, bad e.1 = none ∧ bad e.2 = none) : bad (qlines L) = none ∧ ctl (qlines L) 0 = none := by
  induction L with
  | nil => exact ⟨rfl, rfl⟩
  | cons e L ih =>
    obtain ⟨i1, i2⟩ := ih (fun f hf => h f (by simp [hf]))
    obtain ⟨h1, h2⟩ := h e (by simp)
    simp only [qlines]
    refine ⟨bad_join (by decide) (bad_join (by decide) (bad_quote h1) (bad_quote h2)) i1, (ctl_part _ _ 0).2 ⟨?_, i2⟩⟩
    exact ctl_clean_app (cl_qline e) [10] 0 rfl
/-- THE PLAIN LAW of IniQuotes. -/
theorem quotes_law (name : Str) (L : List (Str × Str)) (hn : bad name = none) (hnl : name.length ≤ 100) (hL : L.length ≤ 10) (hl : ∀ e ∈ L, e.1.length ≤ 100 ∧ e.2.length ≤ 100) (hb : ∀ e ∈ L, bad e.1 = none ∧ bad e.2 = none)
    (hd : L.Pairwise (fun e f => e.1 ≠ f.1)) : (qsrc name L).length ≤ 20000 ∧ ∃ st, parse (qsrc name L) = .ok st ∧ Flat [⟨10, [], [1], [2]⟩, ⟨5, name, [], []⟩] L st := by
  have h1 := qlines_len L hl
  have h2 := qs_len name
  obtain ⟨h3, h4⟩ := qlines_bad L hb
  have hlen : (qsrc name L).length ≤ 20000 := by
    unfold qsrc qhead quote
    simp only [List.length_append, List.length_cons, List.length_nil]
    omega
  refine ⟨hlen, ?_⟩
  have hbad : bad (qsrc name L) = none := by
    unfold qsrc
    refine bad_join (by decide) (bad_join (by decide) ?_ rfl) h3
    unfold qhead
    rw [bad_cons _ _ (by decide), bad_cons _ _ (by decide), bad_cons _ _ (by decide), bad_quote_app hn (by decide)]; rfl
  have hctl : ctl (qsrc name L) 0 = none := by
    unfold qsrc
    refine (ctl_part _ _ 0).2 ⟨?_, h4⟩
    rw [List.append_assoc]
    exact ctl_clean_app (cl_qhead name) _ 0 rfl
  rw [parse_eq _ (by omega), hbad, hctl]
  simp only
  obtain ⟨s1, k1, k2⟩ := line_head (qsrc name L).length name
  have hno : (10 : UInt8) ∉ qhead name ++ [13] := by
    intro hm
    rcases List.mem_append.1 hm with hm | hm
    · exact (cl_qhead name).no10 hm
    · simp at hm
  have hcr : cr (qhead name ++ [13]) = qhead name := by
    unfold cr
    rw [if_pos (by simp), List.dropLast_concat]
  obtain ⟨s2, k3, k4⟩ := run_q L [] k2 (0 + (qhead name ++ [13]).length + 1) (by simp; omega) (by simpa using hd)
  refine ⟨s2, ?_, by simpa using k4⟩
  show run (start (qsrc name L).length) (qsrc name L) 0 = _
  conv => lhs; arg 2; unfold qsrc
  rw [run_line _ _ _ _ hno, hcr, k1]
  exact k3
end Ini
end Go.Proofs.YtegdemnfjmaicaaDoor
namespace Go.Proofs.YtegdemnfjmaicaaDoor
namespace Ini
/-- the row of the reference for a first byte: length, the first byte's bits, least and greatest value. -/
def rowOf (c : Nat) : Nat × Nat × Nat × Nat :=
  if 192 ≤ c ∧ c < 224 then (2, c - 192, 128, 2047)
  else if 224 ≤ c ∧ c < 240 then (3, c - 224, 2048, 65535)
  else if 240 ≤ c ∧ c < 248 then (4, c - 240, 65536, 1114111)
  else (0, 0, 0, 0)
/-- the bytes behind the first, added to a value; none if one of them does not go on. -/
def goOn : Nat → Str → Option Nat
  | v, [] => some v
  | v, c :: r => if c < 128 || 191 < c then none else goOn (64 * v + (c.toNat - 128)) r
def widen : Nat → Nat × Nat → Nat × Nat
  | 0, p => p
  | k + 1, p => widen k (64 * p.1, 64 * p.2 + 63)
def begins (b : Str) : Nat × Nat :=
  match b with
  | [] => (0, 0)
  | c :: r =>
    if c < 128 ∧ r = [] then (c.toNat, 1)
    else
      let n := (rowOf c.toNat).1
      if r.length + 1 > n then (0, 0)
      else match goOn (rowOf c.toNat).2.1 r with
        | none => (0, 0)
        | some v =>
          let p := widen (n - (r.length + 1)) (v, v)
          if p.2 < (rowOf c.toNat).2.2.1 ∨ p.1 > (rowOf c.toNat).2.2.2 ∨ (p.1 ≥ 55296 ∧ p.2 ≤ 57343) then (0, 0) else (p.1, n)
/-- the reference's At on what is left. -/
def refAt (r : Str) : Nat × Nat :=
  if 1 ≤ r.length ∧ (begins (r.take 1)).2 = 1 then begins (r.take 1)
  else if 2 ≤ r.length ∧ (begins (r.take 2)).2 = 2 then begins (r.take 2)
  else if 3 ≤ r.length ∧ (begins (r.take 3)).2 = 3 then begins (r.take 3)
  else if 4 ≤ r.length ∧ (begins (r.take 4)).2 = 4 then begins (r.take 4)
  else (0, 0)
end Ini
end Go.Proofs.YtegdemnfjmaicaaDoor
namespace Go.Proofs.YtegdemnfjmaicaaDoor
namespace Ini
theorem lt8 (c : UInt8) (k : Nat) (hk : k < 256) : (c < UInt8.ofNat k) ↔ c.toNat < k := by
  rw [UInt8.lt_iff_toNat_lt, UInt8.toNat_ofNat_of_lt' (by simpa using hk)]
theorem gt8 (c : UInt8) (k : Nat) (hk : k < 256) : (UInt8.ofNat k < c) ↔ k < c.toNat := by
  rw [UInt8.lt_iff_toNat_lt, UInt8.toNat_ofNat_of_lt' (by simpa using hk)]
/-- does a byte go on. -/
def isC (d : UInt8) : Bool := decide (128 ≤ d.toNat) && decide (d.toNat ≤ 191)
theorem goOn_cons (v : Nat) (d : UInt8) (r : Str) : goOn v (d :: r) = if isC d then goOn (64 * v + (d.toNat - 128)) r else none := by
  have h1 : (d < 128) ↔ d.toNat < 128 := lt8 d 128 (by omega)
  have h2 : (191 < d) ↔ 191 < d.toNat := gt8 d 191 (by omega)
  rw [goOn]
  by_cases hd : isC d = true
  · have : 128 ≤ d.toNat ∧ d.toNat ≤ 191 := by simpa [isC] using hd
    rw [if_pos hd, if_neg]
    simp [h1, h2]; omega
  · rw [if_neg hd, if_pos]
    simp only [isC, Bool.and_eq_true, decide_eq_true_eq] at hd
    simp [h1, h2]; omega
/-- begins at two bytes and more: by the row of the first. -/
theorem begins_row (c d : UInt8) (r : Str) : begins (c :: d :: r) =
    if r.length + 2 > (rowOf c.toNat).1 then (0, 0)
    else match goOn (rowOf c.toNat).2.1 (d :: r) with
      | none => (0, 0)
      | some v => if (widen ((rowOf c.toNat).1 - (r.length + 2)) (v, v)).2 < (rowOf c.toNat).2.2.1 ∨ (widen ((rowOf c.toNat).1 - (r.length + 2)) (v, v)).1 > (rowOf c.toNat).2.2.2 ∨ ((widen ((rowOf c.toNat).1 - (r.length + 2)) (v, v)).1 ≥ 55296 ∧ (widen ((rowOf c.toNat).1 - (r.length + 2)) (v, v)).2 ≤ 57343) then (0, 0) else ((widen ((rowOf c.toNat).1 - (r.length + 2)) (v, v)).1, (rowOf c.toNat).1) := by
  unfold begins
  simp only [reduceCtorEq, and_false, if_false, List.length_cons]
  all_goals rfl
/-- the length that begins tells is the row's, or 0. -/
theorem begins_len (c d : UInt8) (r : Str) : (begins (c :: d :: r)).2 = 0 ∨ ((begins (c :: d :: r)).2 = (rowOf c.toNat).1 ∧ r.length + 2 ≤ (rowOf c.toNat).1) := by
  rw [begins_row]
  split
  · exact .inl rfl
  · rename_i h
    split
    · exact .inl rfl
    · split
      · exact .inl rfl
      · exact .inr ⟨rfl, by omega⟩
theorem begins_one (c : UInt8) : (begins [c]).2 = 1 ↔ c.toNat < 128 := by
  have hlt : c.toNat < 256 := c.toNat_lt
  have h1 : (c < 128) ↔ c.toNat < 128 := by rw [UInt8.lt_iff_toNat_lt]; rfl
  unfold begins
  simp only [and_true, List.length_nil, h1]
  by_cases hc : c.toNat < 128
  · simp [hc]
  · rw [if_neg hc]
    simp only [hc, iff_false]
    unfold rowOf
    split
    · simp only [goOn, widen]; repeat' split
      all_goals simp
    · split
      · simp only [goOn, widen]; repeat' split
        all_goals simp
      · split
        · simp only [goOn, widen]; repeat' split
          all_goals simp
        · simp
theorem row_two (c : Nat) (h : 192 ≤ c ∧ c < 224) : rowOf c = (2, c - 192, 128, 2047) := by unfold rowOf; rw [if_pos h]
theorem row_three (c : Nat) (h : 224 ≤ c ∧ c < 240) : rowOf c = (3, c - 224, 2048, 65535) := by unfold rowOf; rw [if_neg (by omega), if_pos h]
theorem row_four (c : Nat) (h : 240 ≤ c ∧ c < 248) : rowOf c = (4, c - 240, 65536, 1114111) := by unfold rowOf; rw [if_neg (by omega), if_neg (by omega), if_pos h]
theorem row_none (c : Nat) (h : c < 192 ∨ 248 ≤ c) : rowOf c = (0, 0, 0, 0) := by unfold rowOf; rw [if_neg (by omega), if_neg (by omega), if_neg (by omega)]
/-- the reference's answer by the row of the first byte: it stands at the row's length alone. -/
theorem refAt_row (c : UInt8) (r : Str) (n : Nat) (hc : ¬ c.toNat < 128) (hn : (rowOf c.toNat).1 = n) (h2 : 2 ≤ n ∨ n = 0) (h4 : n ≤ 4) :
    refAt (c :: r) = if 2 ≤ n ∧ n ≤ r.length + 1 ∧ (begins ((c :: r).take n)).2 = n then begins ((c :: r).take n) else (0, 0) := by
  have hone : ¬ (begins ((c :: r).take 1)).2 = 1 := by
    rw [show (c :: r).take 1 = [c] from rfl, begins_one]; exact hc
  have hoth : ∀ k, 2 ≤ k → k ≤ r.length + 1 → k ≠ n → ¬ (begins ((c :: r).take k)).2 = k := by
    intro k hk hk2 hkn
    cases r with
    | nil => rw [List.length_nil] at hk2; omega
    | cons d q =>
      obtain ⟨j, rfl⟩ : ∃ j, k = j + 2 := ⟨k - 2, by omega⟩
      have := begins_len c d (q.take j)
      rw [show (c :: d :: q).take (j + 2) = c :: d :: q.take j from rfl]
      have hl : (q.take j).length = j := by rw [List.length_take]; simp only [List.length_cons] at hk2; omega
      intro he
      rcases this with h | h
      · omega
      · omega
  unfold refAt
  rw [if_neg (fun h => hone h.2), List.length_cons]
  by_cases a2 : n = 2
  · subst a2
    by_cases b : 2 ≤ r.length + 1 ∧ (begins ((c :: r).take 2)).2 = 2
    · rw [if_pos b, if_pos ⟨by omega, b.1, b.2⟩]
    · rw [if_neg b, if_neg (fun h => hoth 3 (by omega) h.1 (by omega) h.2), if_neg (fun h => hoth 4 (by omega) h.1 (by omega) h.2), if_neg (fun h => b ⟨h.2.1, h.2.2⟩)]
  · rw [if_neg (fun h => hoth 2 (by omega) h.1 (by omega) h.2)]
    by_cases a3 : n = 3
    · subst a3
      by_cases b : 3 ≤ r.length + 1 ∧ (begins ((c :: r).take 3)).2 = 3
      · rw [if_pos b, if_pos ⟨by omega, b.1, b.2⟩]
      · rw [if_neg b, if_neg (fun h => hoth 4 (by omega) h.1 (by omega) h.2), if_neg (fun h => b ⟨h.2.1, h.2.2⟩)]
    · rw [if_neg (fun h => hoth 3 (by omega) h.1 (by omega) h.2)]
      by_cases a4 : n = 4
      · subst a4
        by_cases b : 4 ≤ r.length + 1 ∧ (begins ((c :: r).take 4)).2 = 4
        · rw [if_pos b, if_pos ⟨by omega, b.1, b.2⟩]
        · rw [if_neg b, if_neg (fun h => b ⟨h.2.1, h.2.2⟩)]
      · rw [if_neg (fun h => hoth 4 (by omega) h.1 (by omega) h.2), if_neg (by omega)]
/-- what the reference must answer where the model decodes. -/
def Agree (s : Str) : Prop := ((dec s).1 = 65533 ∧ (dec s).2 = 1 ∧ (refAt s).2 = 0) ∨ (¬ ((dec s).1 = 65533 ∧ (dec s).2 = 1) ∧ refAt s = dec s)
theorem agree_low (c : UInt8) (r : Str) (hc : c.toNat < 128) : Agree (c :: r) := by
  have h1 : (c < 128) ↔ c.toNat < 128 := lt8 c 128 (by omega)
  have hd : dec (c :: r) = (c.toNat, 1) := by
    unfold dec
    simp only [List.getD_cons_zero]
    rw [if_pos hc]
  have hb : begins [c] = (c.toNat, 1) := by
    unfold begins
    simp only [and_true, h1, hc, if_true]
  refine .inr ⟨by rw [hd]; simp only; omega, ?_⟩
  rw [hd]
  unfold refAt
  rw [show (c :: r).take 1 = [c] from rfl, hb, if_pos ⟨by simp, rfl⟩]
theorem agree_none (c : UInt8) (r : Str) (hc : 128 ≤ c.toNat) (h : c.toNat < 192 ∨ 248 ≤ c.toNat) : Agree (c :: r) := by
  have hlt : c.toNat < 256 := c.toNat_lt
  have hd : dec (c :: r) = (65533, 1) := by
    unfold dec
    simp only [List.getD_cons_zero]
    have e1 : (c.toNat / 32 == 6) = false := by simp; omega
    have e2 : (c.toNat / 16 == 14) = false := by simp; omega
    have e3 : (c.toNat / 8 == 30) = false := by simp; omega
    rw [if_neg (by omega), e1, e2, e3]
    simp
  refine .inl ⟨by rw [hd], by rw [hd], ?_⟩
  rw [refAt_row c r 0 (by omega) (by rw [row_none _ h]) (.inr rfl) (by omega), if_neg (by omega)]
theorem isC_iff (d : UInt8) : (d.toNat / 64 == 2) = isC d := by
  have hlt : d.toNat < 256 := d.toNat_lt
  unfold isC
  rw [Bool.eq_iff_iff]
  simp
  omega
theorem agree_two (c : UInt8) (r : Str) (h : 192 ≤ c.toNat ∧ c.toNat < 224) : Agree (c :: r) := by
  have hrow := row_two _ h
  have href := refAt_row c r 2 (by omega) (by rw [hrow]) (.inl (by omega)) (by omega)
  have e1 : (c.toNat / 32 == 6) = true := by simp; omega
  have e2 : (c.toNat / 16 == 14) = false := by simp; omega
  have e3 : (c.toNat / 8 == 30) = false := by simp; omega
  cases r with
  | nil =>
    have hd : dec [c] = (65533, 1) := by
      unfold dec
      simp only [List.getD_cons_zero]
      rw [if_neg (by omega), e1, e2, e3]
      simp
    exact .inl ⟨by rw [hd], by rw [hd], by rw [href, if_neg (by simp)]⟩
  | cons d q =>
    have hb : begins ((c :: d :: q).take 2) = begins [c, d] := rfl
    have hdec : dec (c :: d :: q) = if isC d then (if 128 ≤ c.toNat % 32 * 64 + d.toNat % 64 then (c.toNat % 32 * 64 + d.toNat % 64, 2) else (65533, 1)) else (65533, 1) := by
      unfold dec
      simp only [List.getD_cons_zero, List.getD_cons_succ, List.length_cons]
      rw [if_neg (by omega), e1, e2, e3, isC_iff]
      simp
    have hval : begins [c, d] = if isC d then (if 128 ≤ c.toNat % 32 * 64 + d.toNat % 64 then (c.toNat % 32 * 64 + d.toNat % 64, 2) else (0, 0)) else (0, 0) := by
      rw [begins_row, hrow, if_neg (by simp), goOn_cons]
      cases hd : isC d with
      | false => rfl
      | true =>
        have hd2 : 128 ≤ d.toNat ∧ d.toNat ≤ 191 := by simpa [isC] using hd
        have hv : 64 * (c.toNat - 192) + (d.toNat - 128) = c.toNat % 32 * 64 + d.toNat % 64 := by omega
        simp only [if_true, goOn, List.length_nil, Nat.zero_add, Nat.sub_self, widen, hv]
        by_cases hge : 128 ≤ c.toNat % 32 * 64 + d.toNat % 64
        · rw [if_pos hge, if_neg (by omega)]
        · rw [if_neg hge, if_pos (by omega)]
    rw [hb] at href
    unfold Agree
    rw [hdec, href, hval]
    cases hd : isC d with
    | false => simp
    | true =>
      have hd2 : 128 ≤ d.toNat ∧ d.toNat ≤ 191 := by simpa [isC] using hd
      by_cases hge : 128 ≤ c.toNat % 32 * 64 + d.toNat % 64
      · simp only [if_true, if_pos hge, List.length_cons]
        rw [if_pos (by simp)]
        exact .inr ⟨fun h => by simp at h, rfl⟩
      · simp only [if_true, if_neg hge]
        rw [if_neg (by simp)]
        exact .inl (by simp)
end Ini
end Go.Proofs.YtegdemnfjmaicaaDoor
namespace Go.Proofs.YtegdemnfjmaicaaDoor
namespace Ini
theorem valid_nat (v : Nat) : Utf8.valid (v : Int) = (decide (v < 55296) || (decide (57344 ≤ v) && decide (v ≤ 1114111))) := by
  unfold Utf8.valid
  rw [Bool.eq_iff_iff]
  simp only [Bool.or_eq_true, Bool.and_eq_true, decide_eq_true_eq]
  omega
theorem agree_three (c : UInt8) (r : Str) (h : 224 ≤ c.toNat ∧ c.toNat < 240) : Agree (c :: r) := by
  have hrow := row_three _ h
  have href := refAt_row c r 3 (by omega) (by rw [hrow]) (.inl (by omega)) (by omega)
  have e1 : (c.toNat / 32 == 6) = false := by simp; omega
  have e2 : (c.toNat / 16 == 14) = true := by simp; omega
  have e3 : (c.toNat / 8 == 30) = false := by simp; omega
  match r, href with
  | [], href =>
    have hd : dec [c] = (65533, 1) := by
      unfold dec
      simp only [List.getD_cons_zero]
      rw [if_neg (by omega), e1, e2, e3]
      simp
    exact .inl ⟨by rw [hd], by rw [hd], by rw [href, if_neg (by simp)]⟩
  | [d], href =>
    have hd : dec [c, d] = (65533, 1) := by
      unfold dec
      simp only [List.getD_cons_zero]
      rw [if_neg (by omega), e1, e2, e3]
      simp
    exact .inl ⟨by rw [hd], by rw [hd], by rw [href, if_neg (by simp)]⟩
  | d :: e :: q, href =>
    have hb : begins ((c :: d :: e :: q).take 3) = begins [c, d, e] := rfl
    obtain ⟨v, hv⟩ : ∃ v, v = c.toNat % 16 * 4096 + d.toNat % 64 * 64 + e.toNat % 64 := ⟨_, rfl⟩
    have hdec : dec (c :: d :: e :: q) = if isC d && isC e then (if 2048 ≤ v ∧ (v < 55296 ∨ 57343 < v) then (v, 3) else (65533, 1)) else (65533, 1) := by
      unfold dec
      simp only [List.getD_cons_zero, List.getD_cons_succ, List.length_cons]
      rw [if_neg (by omega), e1, e2, e3, isC_iff, isC_iff, ← hv]
      have hlen1 : decide (1 < q.length + 1 + 1 + 1) = true := by simp
      have hlen2 : decide (2 < q.length + 1 + 1 + 1) = true := by simp
      rw [hlen1, hlen2]
      simp only [Bool.false_and, Bool.true_and, Bool.false_eq_true, if_false]
      have hv2 : v ≤ 65535 := by omega
      cases hdd : isC d && isC e with
      | false => simp
      | true =>
        simp only [if_true, valid_nat]
        by_cases hg : 2048 ≤ v ∧ (v < 55296 ∨ 57343 < v)
        · rw [if_pos hg, if_pos]
          simp; omega
        · rw [if_neg hg, if_neg]
          simp; omega
    have hval : begins [c, d, e] = if isC d && isC e then (if 2048 ≤ v ∧ (v < 55296 ∨ 57343 < v) then (v, 3) else (0, 0)) else (0, 0) := by
      rw [begins_row, hrow, if_neg (by simp), goOn_cons]
      cases hd : isC d with
      | false => rfl
      | true =>
        rw [if_pos rfl, goOn_cons]
        cases he : isC e with
        | false => rfl
        | true =>
          have hd2 : 128 ≤ d.toNat ∧ d.toNat ≤ 191 := by simpa [isC] using hd
          have he2 : 128 ≤ e.toNat ∧ e.toNat ≤ 191 := by simpa [isC] using he
          have hvv : 64 * (64 * (c.toNat - 224) + (d.toNat - 128)) + (e.toNat - 128) = v := by omega
          have hv2 : v ≤ 65535 := by omega
          simp only [if_true, goOn, List.length_nil, List.length_cons, Nat.zero_add, Nat.sub_self, widen, hvv, Bool.and_self]
          by_cases hg : 2048 ≤ v ∧ (v < 55296 ∨ 57343 < v)
          · rw [if_pos hg, if_neg (by omega)]
          · rw [if_neg hg, if_pos (by omega)]
    rw [hb] at href
    unfold Agree
    rw [hdec, href, hval]
    cases hd : isC d && isC e with
    | false => simp
    | true =>
      by_cases hg : 2048 ≤ v ∧ (v < 55296 ∨ 57343 < v)
      · simp only [if_true, if_pos hg, List.length_cons]
        rw [if_pos (by simp)]
        exact .inr ⟨fun h => by simp at h, rfl⟩
      · simp only [if_true, if_neg hg]
        rw [if_neg (by simp)]
        exact .inl (by simp)
theorem agree_four (c : UInt8) (r : Str) (h : 240 ≤ c.toNat ∧ c.toNat < 248) : Agree (c :: r) := by
  have hrow := row_four _ h
  have href := refAt_row c r 4 (by omega) (by rw [hrow]) (.inl (by omega)) (by omega)
  have e1 : (c.toNat / 32 == 6) = false := by simp; omega
  have e2 : (c.toNat / 16 == 14) = false := by simp; omega
  have e3 : (c.toNat / 8 == 30) = true := by simp; omega
  have short : r.length < 3 → Agree (c :: r) := by
    intro hl
    have hd : dec (c :: r) = (65533, 1) := by
      unfold dec
      simp only [List.getD_cons_zero, List.length_cons]
      rw [if_neg (by omega), e1, e2, e3]
      have h3 : decide (3 < r.length + 1) = false := by simp; omega
      rw [h3]
      simp
    exact .inl ⟨by rw [hd], by rw [hd], by rw [href, if_neg (by omega)]⟩
  match r, href, short with
  | [], _, short => exact short (by simp)
  | [_], _, short => exact short (by simp)
  | [_, _], _, short => exact short (by simp)
  | d :: e :: f :: q, href, _ =>
    have hb : begins ((c :: d :: e :: f :: q).take 4) = begins [c, d, e, f] := rfl
    obtain ⟨v, hv⟩ : ∃ v, v = c.toNat % 8 * 262144 + d.toNat % 64 * 4096 + e.toNat % 64 * 64 + f.toNat % 64 := ⟨_, rfl⟩
    have hdec : dec (c :: d :: e :: f :: q) = if isC d && isC e && isC f then (if 65536 ≤ v ∧ v ≤ 1114111 then (v, 4) else (65533, 1)) else (65533, 1) := by
      unfold dec
      simp only [List.getD_cons_zero, List.getD_cons_succ, List.length_cons]
      rw [if_neg (by omega), e1, e2, e3, isC_iff, isC_iff, isC_iff, ← hv]
      have hlen1 : decide (1 < q.length + 1 + 1 + 1 + 1) = true := by simp
      have hlen2 : decide (2 < q.length + 1 + 1 + 1 + 1) = true := by simp
      have hlen3 : decide (3 < q.length + 1 + 1 + 1 + 1) = true := by simp
      rw [hlen1, hlen2, hlen3]
      simp only [Bool.false_and, Bool.true_and, Bool.false_eq_true, if_false]
      cases hdd : isC d && isC e && isC f with
      | false => simp
      | true =>
        simp only [if_true, valid_nat]
        by_cases hg : 65536 ≤ v ∧ v ≤ 1114111
        · rw [if_pos hg, if_pos]
          simp; omega
        · rw [if_neg hg, if_neg]
          simp; omega
    have hval : begins [c, d, e, f] = if isC d && isC e && isC f then (if 65536 ≤ v ∧ v ≤ 1114111 then (v, 4) else (0, 0)) else (0, 0) := by
      rw [begins_row, hrow, if_neg (by simp), goOn_cons]
      cases hd : isC d with
      | false => rfl
      | true =>
        rw [if_pos rfl, goOn_cons]
        cases he : isC e with
        | false => rfl
        | true =>
          rw [if_pos rfl, goOn_cons]
          cases hf : isC f with
          | false => rfl
          | true =>
            have hd2 : 128 ≤ d.toNat ∧ d.toNat ≤ 191 := by simpa [isC] using hd
            have he2 : 128 ≤ e.toNat ∧ e.toNat ≤ 191 := by simpa [isC] using he
            have hf2 : 128 ≤ f.toNat ∧ f.toNat ≤ 191 := by simpa [isC] using hf
            have hvv : 64 * (64 * (64 * (c.toNat - 240) + (d.toNat - 128)) + (e.toNat - 128)) + (f.toNat - 128) = v := by omega
            simp only [if_true, goOn, List.length_nil, List.length_cons, Nat.zero_add, Nat.sub_self, widen, hvv, Bool.and_self]
            by_cases hg : 65536 ≤ v ∧ v ≤ 1114111
            · rw [if_pos hg, if_neg (by omega)]
            · rw [if_neg hg, if_pos (by omega)]
    rw [hb] at href
    unfold Agree
    rw [hdec, href, hval]
    cases hd : isC d && isC e && isC f with
    | false => simp
    | true =>
      by_cases hg : 65536 ≤ v ∧ v ≤ 1114111
      · simp only [if_true, if_pos hg, List.length_cons]
        rw [if_pos (by simp)]
        exact .inr ⟨fun h => by simp at h, rfl⟩
      · simp only [if_true, if_neg hg]
        rw [if_neg (by simp)]
        exact .inl (by simp)
/-- the reference reads what the model decodes. -/
theorem agree (s : Str) (h : s ≠ []) : Agree s := by
  cases s with
  | nil => exact absurd rfl h
  | cons c r =>
    have hlt : c.toNat < 256 := c.toNat_lt
    by_cases h1 : c.toNat < 128
    · exact agree_low c r h1
    · by_cases h2 : c.toNat < 192 ∨ 248 ≤ c.toNat
      · exact agree_none c r (by omega) h2
      · by_cases h3 : c.toNat < 224
        · exact agree_two c r (by omega)
        · by_cases h4 : c.toNat < 240
          · exact agree_three c r (by omega)
          · exact agree_four c r (by omega)
end Ini
end Go.Proofs.YtegdemnfjmaicaaDoor
namespace Go.Proofs.YtegdemnfjmaicaaDoor
namespace Ini
def refBadU : Nat → Str → Nat → Option Nat
  | 0, _, _ => none
  | n + 1, r, i => match r with
    | [] => none
    | _ :: _ => if (refAt r).2 = 0 then some i else refBadU n (r.drop (refAt r).2) (i + (refAt r).2)
theorem refBad_eq (n : Nat) (r : Str) (i : Nat) : refBadU n r i = badU n r i := by
  induction n generalizing r i with
  | zero => rfl
  | succ n ih =>
    cases r with
    | nil => rfl
    | cons c q =>
      unfold refBadU badU
      have hw := dec_width (c :: q)
      rcases agree (c :: q) (by simp) with ⟨h1, h2, h3⟩ | ⟨h1, h2⟩
      · simp only
        rw [if_pos h3, if_pos ⟨h1, h2⟩]
      · simp only
        rw [if_neg h1, h2, if_neg (by omega)]
        exact ih _ _
end Ini
end Go.Proofs.YtegdemnfjmaicaaDoor

/- UTF-8 on lists of bytes: plain. -/
import GoSem.Core.Utf8
import Derived.Test.YtegdemnfjmaicaaDoorPlain
namespace Go.Proofs.YtegdemnfjmaicaaDoor
namespace Ini
/-- the model's decoder at what is left of a string. -/
def dec (r : Str) : Nat × Nat :=
  let b (k : Nat) : Nat := (r.getD k 0).toNat
  let cont (k : Nat) : Bool := k < r.length && b k / 64 == 2
  if b 0 < 0x80 then (b 0, 1)
  else if b 0 / 32 == 6 && cont 1 then
    let c := (b 0 % 32) * 64 + b 1 % 64
    if c ≥ 0x80 then (c, 2) else (65533, 1)
  else if b 0 / 16 == 14 && cont 1 && cont 2 then
    let c := (b 0 % 16) * 4096 + (b 1 % 64) * 64 + b 2 % 64
    if c ≥ 0x800 && Utf8.valid c then (c, 3) else (65533, 1)
  else if b 0 / 8 == 30 && cont 1 && cont 2 && cont 3 then
    let c := (b 0 % 8) * 262144 + (b 1 % 64) * 4096 + (b 2 % 64) * 64 + b 3 % 64
    if c ≥ 0x10000 && Utf8.valid c then (c, 4) else (65533, 1)
  else (65533, 1)
theorem get_list (s : Str) (j : Nat) : ((⟨s.toArray⟩ : ByteArray).get! j) = s.getD j 0 := by
  show (s.toArray)[j]! = _
  rw [List.getElem!_toArray, List.getElem!_eq_getElem?_getD, List.getD_eq_getElem?_getD]
  rfl
theorem decode_list (s : Str) (i : Nat) : Utf8.decode ⟨s.toArray⟩ i = dec (s.drop i) := by
  have hb : ∀ k, (⟨s.toArray⟩ : ByteArray).get! (i + k) = (s.drop i).getD k 0 := by
    intro k
    rw [get_list, List.getD_eq_getElem?_getD, List.getD_eq_getElem?_getD, List.getElem?_drop]
  have hs : (⟨s.toArray⟩ : ByteArray).size = s.length := by simp [ByteArray.size]
  have hc : ∀ k, decide (i + k < (⟨s.toArray⟩ : ByteArray).size) = decide (k < (s.drop i).length) := by
    intro k
    rw [hs, List.length_drop, decide_eq_decide]; omega
  unfold Utf8.decode dec
  simp only [hb, hc, Utf8.runeError]
/-- the offset of the first byte that begins no sequence. -/
def badU : Nat → Str → Nat → Option Nat
  | 0, _, _ => none
  | n + 1, r, i => match r with
    | [] => none
    | _ :: _ => if (dec r).1 = 65533 ∧ (dec r).2 = 1 then some i else badU n (r.drop (dec r).2) (i + (dec r).2)
def bad (s : Str) : Option Nat := badU s.length s 0
theorem dec_width (r : Str) : 1 ≤ (dec r).2 ∧ (dec r).2 ≤ 4 := by
  unfold dec
  simp only
  repeat' split
  all_goals (constructor <;> simp)
/-- what the parser answers. -/
def parse (s : Str) : Res St :=
  if s.length > 65536 then .err 0 6
  else match bad s with
    | some a => .err a 11
    | none => match ctl s 0 with
      | some a => .err a 4
      | none => lines (s.length + 1) (start s.length) s 0
end Ini
end Go.Proofs.YtegdemnfjmaicaaDoor

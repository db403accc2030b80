/- What the edits of the program and of the reference are: plain. -/
import Derived.Test.YtnnicjbceadnbaaPlainB
import Derived.Test.YtnnicjbceadnbaaPlainC
namespace Go.Proofs.Ytnnicjbceadnbaa
namespace Sp
/-- a valid list of edits, from an offset on. -/
def Val (n : Int) : Int → List Ed → Prop
  | a, [] => a ≤ n
  | a, x :: r => a ≤ x.f ∧ x.f ≤ x.t ∧ Val n x.t r
theorem Val.le {n a : Int} {es : List Ed} (h : Val n a es) : a ≤ n := by
  induction es generalizing a with
  | nil => exact h
  | cons x r ih => have := ih h.2.2; have := h.1; have := h.2.1; omega
theorem chk_val (n : Int) (es : List Ed) (e i : Int) (he : 0 ≤ e) (hen : e ≤ n) (h : chk n e i es = 0) : Val n e es := by
  induction es generalizing e i with
  | nil => exact hen
  | cons y r ih =>
    unfold chk at h
    split at h
    · simp at h
    · split at h
      · simp at h
      · exact ⟨by omega, by omega, ih _ _ (by omega) (by omega) h⟩
/-- the pieces of an edited source, written out. -/
def flat (n : Int) : Int → List Ed → List Ed
  | a, [] => kept a n
  | a, x :: r => kept a x.f ++ added x.s ++ flat n x.t r
theorem part_kept (n a f : Int) (h0 : 0 ≤ a) (h1 : a ≤ f) (h2 : f ≤ n) : part a f 0 (kept 0 n) = kept a f := by
  unfold kept
  by_cases hn : 0 = n
  · rw [if_pos hn, if_pos (by omega)]; rfl
  · rw [if_neg hn]
    simp only [part, List.append_nil]
    by_cases haf : a = f
    · rw [if_pos haf, bit, if_neg]
      simp only; omega
    · rw [if_neg haf, bit, if_pos (by simp only; omega)]
      simp only
      rw [if_neg (by omega)]
      congr 2 <;> omega
theorem pieces_flat (n a : Int) (es : List Ed) (h0 : 0 ≤ a) (h : Val n a es) : edited (kept 0 n) n a es = flat n a es := by
  induction es generalizing a with
  | nil => exact part_kept n a n h0 h (Int.le_refl _)
  | cons x r ih =>
    have hl := h.2.2.le
    rw [edited, flat, part_kept n a x.f h0 h.1 (by have := h.2.1; omega), ih x.t (by have := h.1; have := h.2.1; omega) h.2.2]
def splV (c : List Ce) : Int → List Ed → List Ce
  | a, [] => c.drop a.toNat
  | a, x :: r => cut c a x.f ++ news x.s ++ splV c x.t r
theorem spl_eq (c : List Ce) (a : Int) (es : List Ed) : splTo c a es ++ c.drop (atTo a es).toNat = splV c a es := by
  induction es generalizing a with
  | nil => simp [splTo, atTo, splV]
  | cons x r ih => simp only [splTo, atTo, splV, List.append_assoc, ih]
theorem textOf_append (c d : List Ce) : textOf (c ++ d) = textOf c ++ textOf d := by simp [textOf]
theorem textOf_news (s : List UInt8) : textOf (news s) = s := by simp only [textOf, news, List.map_map]; exact List.map_id' _
theorem textOf_cellsFrom (k : Nat) (s : List UInt8) : textOf (cellsFrom k s) = s := by
  induction s generalizing k with
  | nil => rfl
  | cons b r ih => simp only [cellsFrom, textOf, List.map_cons] at *; rw [ih]
theorem textOf_cells (s : List UInt8) : textOf (cells s) = s := textOf_cellsFrom 0 s
theorem textOf_cut (c : List Ce) (a f : Int) : textOf (cut c a f) = ((textOf c).drop a.toNat).take (f.toNat - a.toNat) := by simp [textOf, cut, List.map_take, List.map_drop]
theorem asm_append (src : List UInt8) (l r : List Ed) : asm src (l ++ r) = asm src l ++ asm src r := by simp [asm]
theorem asm_kept (src : List UInt8) (a f : Int) (h0 : 0 ≤ a) (h1 : a ≤ f) : asm src (kept a f) = (src.drop a.toNat).take (f.toNat - a.toNat) := by
  unfold kept
  by_cases h : a = f
  · subst h; simp [asm]
  · rw [if_neg h]
    simp only [asm, List.flatMap_cons, List.flatMap_nil, List.append_nil, bytes]
    rw [if_neg (by omega)]
    congr 1
    omega
theorem asm_added (src s : List UInt8) : asm src (added s) = s := by
  unfold added
  split
  · rename_i h; subst h; rfl
  · simp [asm, bytes]
theorem text_flat (src : List UInt8) (a : Int) (es : List Ed) (h0 : 0 ≤ a) (h : Val src.length a es) : textOf (splV (cells src) a es) = asm src (flat src.length a es) := by
  induction es generalizing a with
  | nil =>
    rw [splV, flat, asm_kept src a src.length h0 h, textOf, List.map_drop, ← textOf, textOf_cells, List.take_of_length_le (by rw [List.length_drop]; omega)]
  | cons x r ih =>
    rw [splV, flat, textOf_append, textOf_append, asm_append, asm_append, textOf_cut, textOf_cells, textOf_news, asm_kept src a x.f h0 h.1, asm_added, ih x.t (by have := h.1; have := h.2.1; omega) h.2.2]
theorem cells_len (s : List UInt8) : (cells s).length = s.length := cellsFrom_len 0 s
/-- THE LAW OF Apply. -/
theorem apply_law (src : List UInt8) (es : List Ed) (h : chk src.length 0 (-1) es = 0) : textOf (spl (cells src) es) = asm src (edited (kept 0 src.length) src.length 0 es) := by
  have hv := chk_val _ es 0 (-1) (by omega) (by omega) h
  rw [pieces_flat _ 0 es (by omega) hv, ← text_flat src 0 es (by omega) hv, ← spl_eq]
  rfl
end Sp
end Go.Proofs.Ytnnicjbceadnbaa

/- Where a byte of the source stands after the edits: plain. -/
import Derived.Test.YtnnicjbceadnbaaPlainE
import Derived.Test.YtnnicjbceadnbaaMove
namespace Go.Proofs.Ytnnicjbceadnbaa
namespace Sp
theorem shift_zero (n off a : Int) (es : List Ed) (h : Val n a es) (ho : off < a) : shift off es = 0 := by
  induction es generalizing a with
  | nil => rfl
  | cons x r ih =>
    have h1 := h.1
    have h2 := h.2.1
    rw [shift, ih x.t h.2.2 (by omega), stepOf, if_neg (by omega)]
    rfl
theorem inside_cons (off : Int) (x : Ed) (r : List Ed) (h : inside off (x :: r) = false) : ¬ (x.f ≤ off ∧ off < x.t) ∧ inside off r = false := by
  simp only [inside, List.any_cons, Bool.or_eq_false_iff, within, Bool.and_eq_false_iff, decide_eq_false_iff_not] at h
  exact ⟨by rcases h.1 with h | h <;> omega, h.2⟩
theorem shift_cons (off : Int) (x : Ed) (r : List Ed) : shift off (x :: r) = (if x.t ≤ off then (x.s.length : Int) - (x.t - x.f) else 0) + shift off r := rfl
theorem shift_pos (n off a : Int) (es : List Ed) (h : Val n a es) (ha : a ≤ off) (hi : inside off es = false) : 0 ≤ off - a + shift off es := by
  induction es generalizing a with
  | nil => simp only [shift]; omega
  | cons x r ih =>
    obtain ⟨hw, hi⟩ := inside_cons off x r hi
    have h1 := h.1
    have h2 := h.2.1
    rw [shift_cons]
    by_cases ht : x.t ≤ off
    · have := ih x.t h.2.2 ht hi
      rw [if_pos ht]; omega
    · rw [if_neg ht, shift_zero n off x.t r h.2.2 (by omega)]; omega
theorem cut_length (c : List Ce) (a f : Int) (h0 : 0 ≤ a) (h : a ≤ f) (hf : f ≤ c.length) : ((cut c a f).length : Int) = f - a := by
  unfold cut; rw [List.length_take, List.length_drop]; omega
theorem news_length (s : List UInt8) : (news s).length = s.length := by simp [news]
theorem splV_len (c : List Ce) (a : Int) (es : List Ed) (h0 : 0 ≤ a) (h : Val c.length a es) : ((splV c a es).length : Int) = c.length - a + shift c.length es := by
  induction es generalizing a with
  | nil =>
    have : a ≤ c.length := h
    rw [splV, List.length_drop, shift]; omega
  | cons x r ih =>
    have h1 := h.1
    have h2 := h.2.1
    have h3 := h.2.2.le
    have := ih x.t (by omega) h.2.2
    have hc := cut_length c a x.f h0 h1 (by omega)
    rw [splV, shift_cons, if_pos h3, List.length_append, List.length_append, news_length]
    omega
theorem splV_get (c : List Ce) (off a : Int) (es : List Ed) (h0 : 0 ≤ a) (h : Val c.length a es) (ha : a ≤ off) (hi : inside off es = false) : (splV c a es)[(off - a + shift off es).toNat]? = c[off.toNat]? := by
  induction es generalizing a with
  | nil => rw [splV, List.getElem?_drop, shift]; congr 1; omega
  | cons x r ih =>
    obtain ⟨hw, hi⟩ := inside_cons off x r hi
    have h1 := h.1
    have h2 := h.2.1
    have h3 := h.2.2.le
    have hc := cut_length c a x.f h0 h1 (by omega)
    rw [splV, shift_cons]
    by_cases ht : x.t ≤ off
    · have hp := shift_pos _ off x.t r h.2.2 ht hi
      have := ih x.t (by omega) h.2.2 ht hi
      rw [if_pos ht, List.append_assoc, List.getElem?_append_right (by omega), List.getElem?_append_right (by rw [news_length]; omega), news_length, ← this]
      congr 1; omega
    · rw [if_neg ht, shift_zero _ off x.t r h.2.2 (by omega), List.append_assoc, List.getElem?_append_left (by omega), cut, List.getElem?_take_of_lt (by omega), List.getElem?_drop]
      congr 1; omega
theorem splV_text (src : List UInt8) (es : List Ed) (h : chk src.length 0 (-1) es = 0) : asm src (edited (kept 0 src.length) src.length 0 es) = textOf (splV (cells src) 0 es) := by
  rw [← apply_law src es h, spl, spl_eq]
theorem inside_top (n a : Int) (es : List Ed) (h : Val n a es) : inside n es = false := by
  induction es generalizing a with
  | nil => rfl
  | cons x r ih =>
    have := h.2.2.le
    simp only [inside, List.any_cons, Bool.or_eq_false_iff, within, Bool.and_eq_false_iff, decide_eq_false_iff_not]
    exact ⟨.inr (by omega), ih x.t h.2.2⟩
theorem textOf_len (c : List Ce) : (textOf c).length = c.length := by simp [textOf]
/-- the byte at the new offset. -/
theorem move_byte (src : List UInt8) (es : List Ed) (off : Int) (h : chk src.length 0 (-1) es = 0) (h0 : 0 ≤ off) (hi : inside off es = false) (ho : off < src.length) :
    ∃ hn : (off + shift off es).toNat < (asm src (edited (kept 0 src.length) src.length 0 es)).length, (asm src (edited (kept 0 src.length) src.length 0 es))[(off + shift off es).toNat] = src[off.toNat]'(by omega) := by
  have hv := chk_val src.length es 0 (-1) (by omega) (by omega) h
  have hg := splV_get (cells src) off 0 es (by omega) (by rw [cells_len]; exact hv) h0 hi
  rw [splV_text src es h]
  have : (textOf (splV (cells src) 0 es))[(off + shift off es).toNat]? = (textOf (cells src))[off.toNat]? := by
    unfold textOf
    rw [List.getElem?_map, List.getElem?_map, ← hg, show off - 0 + shift off es = off + shift off es from by omega]
  rw [textOf_cells, List.getElem?_eq_getElem (by omega : off.toNat < src.length)] at this
  obtain ⟨hl, he⟩ := List.getElem?_eq_some_iff.1 this
  exact ⟨hl, he⟩
theorem move_end (src : List UInt8) (es : List Ed) (h : chk src.length 0 (-1) es = 0) : (src.length : Int) + shift src.length es = (asm src (edited (kept 0 src.length) src.length 0 es)).length := by
  have hv := chk_val src.length es 0 (-1) (by omega) (by omega) h
  have := splV_len (cells src) 0 es (by omega) (by rw [cells_len]; exact hv)
  rw [cells_len] at this
  rw [splV_text src es h, textOf_len]; omega
theorem move_pos (es : List Ed) (off : Int) (h : chk topI 0 (-1) es = 0) (h0 : 0 ≤ off) (hi : inside off es = false) : 0 ≤ off + shift off es := by
  have := shift_pos topI off 0 es (chk_val topI es 0 (-1) (by omega) (by unfold topI; omega) h) h0 hi
  omega
end Sp
end Go.Proofs.Ytnnicjbceadnbaa

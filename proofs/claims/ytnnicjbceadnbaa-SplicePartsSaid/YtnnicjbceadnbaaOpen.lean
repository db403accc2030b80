/- The laws' arguments opened: strings as lists of bytes, slices of edits. -/
import Derived.Test.YtnnicjbceadnbaaPost
import Derived.Test.YtnnicjbceadnbaaLawA
namespace Go.Proofs.Ytnnicjbceadnbaa
open Go.RowKit Go.WideShapes Go.ChangeShapes Go.Deep Go.ChangeMaps
open Sp (Ed chk)
theorem str_list (s : ByteArray) : ∃ l : List UInt8, s = ⟨l.toArray⟩ := ⟨s.data.toList, by apply ByteArray.ext; simp⟩
theorem str_size (l : List UInt8) : (⟨l.toArray⟩ : ByteArray).size = l.length := by simp [ByteArray.size]
section
variable {H : Type} {enc : TypeId × Value → H} {W : World} {r : Reach} {b0 base : Nat} {sp : Nat → Bool} {hd : Bool} {v : Value} {d : DataW H} {p : List MemPlace}
theorem open_str (hv : Value.okWide Try.prog W r b0 9 v) (h : DataW.Trod enc Try.prog W base sp hd 9 v d p) :
    ∃ l : List UInt8, v = .string ⟨l.toArray⟩ ∧ l.length ≤ 9223372036854775807 := by
  obtain ⟨s, rfl, rfl, rfl, hs⟩ := open_string Try.underlying9 hv h
  obtain ⟨l, rfl⟩ := str_list s
  rw [str_size] at hs
  exact ⟨l, rfl, by unfold maxLen at hs; omega⟩
theorem open_eds (hv : Value.okWide Try.prog W r b0 22 v) (h : DataW.Trod enc Try.prog W base sp hd 22 v d p) :
    ∃ (A : Option Addr) (c : Nat) (l : List Ed), v = .slice A l.length c ∧ EdsAt W W.heap.size A l ∧ Fits l := by
  obtain ⟨A, n, c, rfl⟩ := okWide_slice Try.underlying22 hv
  obtain ⟨fuel, hf⟩ := h
  have hu48 : Try.prog.underlying 48 = some (.struct #[⟨ "From", 3, 0, false, "", "", 0⟩, ⟨ "To", 3, 1, false, "", "", 8⟩, ⟨ "Text", 9, 2, false, "", "", 16⟩]) := by kernel_rfl
  rcases open_slice_fields Try.underlying22 hu48 (by kernel_rfl) (by kernel_rfl) hf with ⟨hcs, hx⟩ | ⟨a, len, cap, m, D, Pl, hcs, hb, hl, hm, hmm, hx, hi⟩
  · simp [Value.cells] at hcs
    obtain ⟨rfl, rfl, rfl⟩ := hcs
    exact ⟨none, 0, [], rfl, EdsAt.nil _ _, by simp, by simp⟩
  · simp [Value.cells] at hcs
    obtain ⟨rfl, rfl, rfl⟩ := hcs
    have hml : n ≤ m := by rw [hmm]; split <;> omega
    have hget : ∀ i, i < n → ∃ x : Ed, W.cell? (a.add (i * 3)) = some (.int .i64 x.f) ∧ W.cell? (a.add (i * 3 + 1)) = some (.int .i64 x.t) ∧ W.cell? (a.add (i * 3 + 2)) = some (.string ⟨x.s.toArray⟩) ∧ x.s.length ≤ 9223372036854775807 ∧ x.t ≤ 9223372036854775807 := by
      intro i him
      obtain ⟨ys, k, _, _, _, hf⟩ := hi i (by omega)
      obtain ⟨v0, y0, c0, _, t0⟩ := hf 0 _ rfl
      obtain ⟨v1, y1, c1, _, t1⟩ := hf 1 _ rfl
      obtain ⟨v2, y2, c2, _, t2⟩ := hf 2 _ rfl
      obtain ⟨f, e0, _, _⟩ := DataW.trod_int Try.underlying3 t0
      obtain ⟨t, e1, _, w1⟩ := DataW.trod_int Try.underlying3 t1
      obtain ⟨s, e2, _, w2⟩ := DataW.trod_string Try.underlying9 t2
      simp at e0 e1 e2
      subst e0 e1 e2
      obtain ⟨s, rfl⟩ := str_list s
      rw [str_size] at w2
      refine ⟨⟨f, t, s⟩, by simpa using c0, by simpa using c1, by simpa using c2, by unfold maxLen at w2; simp only; omega, ?_⟩
      simp [Lit.wf, IntKind.min, IntKind.max, IntKind.signed, IntKind.bits] at w1
      exact w1.2
    obtain ⟨l, hll, hcells⟩ : ∃ l : List Ed, l.length = n ∧ ∀ i (h : i < l.length), W.cell? (a.add (i * 3)) = some (.int .i64 l[i].f) ∧ W.cell? (a.add (i * 3 + 1)) = some (.int .i64 l[i].t) ∧ W.cell? (a.add (i * 3 + 2)) = some (.string ⟨l[i].s.toArray⟩) ∧ l[i].s.length ≤ 9223372036854775807 ∧ l[i].t ≤ 9223372036854775807 := by
      clear hi hx hl hm hmm hml hf hv
      induction n with
      | zero => exact ⟨[], rfl, fun i h => by simp at h⟩
      | succ n ih =>
        obtain ⟨l, hll, hl⟩ := ih (fun i hi => hget i (by omega))
        obtain ⟨x, hx⟩ := hget n (by omega)
        refine ⟨l ++ [x], by simp [hll], fun i hi => ?_⟩
        by_cases hil : i < l.length
        · rw [List.getElem_append_left hil]; exact hl i hil
        · have : i = l.length := by simp at hi; omega
          subst this
          rw [List.getElem_concat_length rfl, hll]; exact hx
    subst hll
    refine ⟨some a, c, l, rfl, ⟨edsCells_len l, fun hn => ⟨a, rfl, ?_, ?_⟩⟩, ?_, ?_⟩
    · have h0 := (hcells 0 hn).1
      have := World.block_lt_of_cell? W _ h0
      rwa [block_of_add] at this
    · intro j u hj
      have hjl : j < l.length * 3 := by have := (List.getElem?_eq_some_iff.1 hj).1; rwa [edsCells_len] at this
      have hk : j / 3 < l.length := by omega
      obtain ⟨e1, e2, e3⟩ := edsCells_at l (j / 3) l[j / 3] (List.getElem?_eq_getElem hk)
      obtain ⟨q1, q2, q3, _⟩ := hcells (j / 3) hk
      have hc : j = j / 3 * 3 ∨ j = j / 3 * 3 + 1 ∨ j = j / 3 * 3 + 2 := by omega
      rcases hc with hc | hc | hc
      · rw [hc] at hj ⊢; rw [e1] at hj; injection hj with hj; rw [← hj]; exact q1
      · rw [hc] at hj ⊢; rw [e2] at hj; injection hj with hj; rw [← hj]; exact q2
      · rw [hc] at hj ⊢; rw [e3] at hj; injection hj with hj; rw [← hj]; exact q3
    · unfold maxLen at hm; omega
    · intro x hx
      obtain ⟨i, hi, rfl⟩ := List.mem_iff_getElem.1 hx
      obtain ⟨_, _, _, h4, h5⟩ := hcells i hi
      exact ⟨h4, h5⟩
end
end Go.Proofs.Ytnnicjbceadnbaa

/- An array of three lists of edits, opened. -/
import Derived.Test.YtnnicjbceadnbaaOpen
import Derived.Laws.IdiomArrays
namespace Go.Proofs.Ytnnicjbceadnbaa
open Go.RowKit Go.WideShapes Go.ChangeShapes Go.Deep Go.ChangeMaps
open Sp (Ed chk)
section
variable {H : Type} {enc : TypeId × Value → H} {W : World} {r : Reach} {b0 base : Nat} {sp : Nat → Bool} {hd : Bool} {v : Value} {d : DataW H} {p : List MemPlace}
theorem eds_of_trod {fuel : Nat} {y : DataW H × List MemPlace} (hf : DataW.trod enc Try.prog W base sp hd fuel 22 [v] = some y) :
    ∃ (A : Option Addr) (c : Nat) (l : List Ed), v = .slice A l.length c ∧ EdsAt W W.heap.size A l ∧ Fits l := by
  have hu48 : Try.prog.underlying 48 = some (.struct #[⟨ "From", 3, 0, false, "", "", 0⟩, ⟨ "To", 3, 1, false, "", "", 8⟩, ⟨ "Text", 9, 2, false, "", "", 16⟩]) := by kernel_rfl
  rcases open_slice_fields Try.underlying22 hu48 (by kernel_rfl) (by kernel_rfl) hf with ⟨hcs, hx⟩ | ⟨a, n, c, m, D, Pl, hcs, hb, hl, hm, hmm, hx, hi⟩
  · simp at hcs
    subst hcs
    exact ⟨none, 0, [], rfl, EdsAt.nil _ _, by simp, by simp⟩
  · simp at hcs
    subst hcs
    have hml : n ≤ m := by rw [hmm]; split <;> omega
    have hget : ∀ i, i < n → ∃ x : Ed, W.cell? (a.add (i * 3)) = some (.int .i64 x.f) ∧ W.cell? (a.add (i * 3 + 1)) = some (.int .i64 x.t) ∧ W.cell? (a.add (i * 3 + 2)) = some (.string ⟨x.s.toArray⟩) ∧ x.s.length ≤ 9223372036854775807 ∧ x.t ≤ 9223372036854775807 := by
      intro i him
      obtain ⟨ys, k, _, _, _, hf⟩ := hi i (by omega)
      obtain ⟨v0, y0, c0, _, t0⟩ := hf 0 _ rfl
      obtain ⟨v1, y1, c1, _, t1⟩ := hf 1 _ rfl
      obtain ⟨v2, y2, c2, _, t2⟩ := hf 2 _ rfl
      obtain ⟨f, e0, _, _⟩ := DataW.trod_int Try.underlying3 t0
      obtain ⟨t, e1, _, w1⟩ := DataW.trod_int Try.underlying3 t1
      obtain ⟨s, e2, _, w2⟩ := DataW.trod_string Try.underlying9 t2
      simp at e0 e1 e2
      subst e0 e1 e2
      obtain ⟨s, rfl⟩ := str_list s
      rw [str_size] at w2
      refine ⟨⟨f, t, s⟩, by simpa using c0, by simpa using c1, by simpa using c2, by unfold maxLen at w2; simp only; omega, ?_⟩
      simp [Lit.wf, IntKind.min, IntKind.max, IntKind.signed, IntKind.bits] at w1
      exact w1.2
    obtain ⟨l, hll, hcells⟩ : ∃ l : List Ed, l.length = n ∧ ∀ i (h : i < l.length), W.cell? (a.add (i * 3)) = some (.int .i64 l[i].f) ∧ W.cell? (a.add (i * 3 + 1)) = some (.int .i64 l[i].t) ∧ W.cell? (a.add (i * 3 + 2)) = some (.string ⟨l[i].s.toArray⟩) ∧ l[i].s.length ≤ 9223372036854775807 ∧ l[i].t ≤ 9223372036854775807 := by
      clear hi hx hl hm hmm hml hf hb
      induction n with
      | zero => exact ⟨[], rfl, fun i h => by simp at h⟩
      | succ n ih =>
        obtain ⟨l, hll, hl⟩ := ih (fun i hi => hget i (by omega))
        obtain ⟨x, hx⟩ := hget n (by omega)
        refine ⟨l ++ [x], by simp [hll], fun i hi => ?_⟩
        by_cases hil : i < l.length
        · rw [List.getElem_append_left hil]; exact hl i hil
        · have : i = l.length := by simp at hi; omega
          subst this
          rw [List.getElem_concat_length rfl, hll]; exact hx
    subst hll
    refine ⟨some a, c, l, rfl, ⟨edsCells_len l, fun hn => ⟨a, rfl, ?_, ?_⟩⟩, ?_, ?_⟩
    · have h0 := (hcells 0 hn).1
      have := World.block_lt_of_cell? W _ h0
      rwa [block_of_add] at this
    · intro j u hj
      have hjl : j < l.length * 3 := by have := (List.getElem?_eq_some_iff.1 hj).1; rwa [edsCells_len] at this
      have hk : j / 3 < l.length := by omega
      obtain ⟨e1, e2, e3⟩ := edsCells_at l (j / 3) l[j / 3] (List.getElem?_eq_getElem hk)
      obtain ⟨q1, q2, q3, _⟩ := hcells (j / 3) hk
      have hc : j = j / 3 * 3 ∨ j = j / 3 * 3 + 1 ∨ j = j / 3 * 3 + 2 := by omega
      rcases hc with hc | hc | hc
      · rw [hc] at hj ⊢; rw [e1] at hj; injection hj with hj; rw [← hj]; exact q1
      · rw [hc] at hj ⊢; rw [e2] at hj; injection hj with hj; rw [← hj]; exact q2
      · rw [hc] at hj ⊢; rw [e3] at hj; injection hj with hj; rw [← hj]; exact q3
    · unfold maxLen at hm; omega
    · intro x hx
      obtain ⟨i, hi, rfl⟩ := List.mem_iff_getElem.1 hx
      obtain ⟨_, _, _, h4, h5⟩ := hcells i hi
      exact ⟨h4, h5⟩
theorem okWide_three {t e : TypeId} (ht : Try.prog.underlying t = some (.array 3 e)) (hce : Try.prog.cellsOf t = 3) (h : Value.okWide Try.prog W r b0 t v) : ∃ c0 c1 c2, v = .agg #[c0, c1, c2] := by
  simp only [Value.okWide, ht] at h
  obtain ⟨cs, h1, h2, _⟩ := h
  rw [hce] at h2
  obtain ⟨l⟩ := cs
  match l, h2 with
  | [c0, c1, c2], _ => exact ⟨c0, c1, c2, h1⟩
theorem open_three (hv : Value.okWide Try.prog W r b0 50 v) (h : DataW.Trod enc Try.prog W base sp hd 50 v d p) :
    ∃ (A B C : Option Addr) (a' b' c' : Nat) (l0 l1 l2 : List Ed), v = .agg #[.slice A l0.length a', .slice B l1.length b', .slice C l2.length c'] ∧ (EdsAt W W.heap.size A l0 ∧ Fits l0) ∧ (EdsAt W W.heap.size B l1 ∧ Fits l1) ∧ (EdsAt W W.heap.size C l2 ∧ Fits l2) := by
  obtain ⟨c0, c1, c2, rfl⟩ := okWide_three Try.underlying50 (by kernel_rfl) hv
  obtain ⟨fuel, hf⟩ := h
  obtain ⟨y0, y1, y2, n, _, h0, h1, h2⟩ := trod_array3 Try.underlying50 (by kernel_rfl) hf
  obtain ⟨A, a', l0, rfl, q0⟩ := eds_of_trod h0
  obtain ⟨B, b', l1, rfl, q1⟩ := eds_of_trod h1
  obtain ⟨C, c', l2, rfl, q2⟩ := eds_of_trod h2
  exact ⟨A, B, C, a', b', c', l0, l1, l2, rfl, q0, q1, q2⟩
end
end Go.Proofs.Ytnnicjbceadnbaa

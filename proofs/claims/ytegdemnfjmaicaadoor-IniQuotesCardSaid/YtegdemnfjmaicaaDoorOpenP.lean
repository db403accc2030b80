/- A slice of pairs of strings, opened. -/
import Derived.Test.YtegdemnfjmaicaaDoorWalk29
import Derived.Deep.Slices
import Derived.OpenShut
import Derived.WideShapes
namespace Go.Proofs.YtegdemnfjmaicaaDoor
open Go.RowKit Go.WideShapes Go.ChangeShapes Go.Deep
section
variable {H : Type} {enc : TypeId × Value → H} {W : World} {r : Reach} {b0 base : Nat} {sp : Nat → Bool} {hd : Bool} {v : Value} {d : DataW H} {p : List MemPlace}
set_option maxRecDepth 100000 in
theorem open_pairs (hv : Value.okWide Tryd.prog W r b0 41 v) (h : DataW.Trod enc Tryd.prog W base sp hd 41 v d p) :
    ∃ (A : Option Addr) (c : Nat) (l : List (Ini.Str × Ini.Str)), v = .slice A l.length c ∧ RowAt pairL W W.heap.size A l := by
  obtain ⟨A, n, c, rfl⟩ := okWide_slice Tryd.underlying41 hv
  obtain ⟨fuel, hf⟩ := h
  have hc9 : Tryd.prog.cellsOf 9 = 1 := by kernel_rfl
  have hc43 : Tryd.prog.cellsOf 43 = 2 := by kernel_rfl
  rcases open_slice Tryd.underlying41 hf with ⟨hcs, hx⟩ | ⟨a, len, cap, m, k, D, Pl, hcs, hb, hl, hm, hmm, hx, hi⟩
  · simp [Value.cells] at hcs
    obtain ⟨rfl, rfl, rfl⟩ := hcs
    exact ⟨none, 0, [], rfl, RowAt.nil⟩
  · simp [Value.cells] at hcs
    obtain ⟨rfl, rfl, rfl⟩ := hcs
    have hml : n ≤ m := by rw [hmm]; split <;> omega
    have hget : ∀ i, i < n → ∃ x : Ini.Str × Ini.Str, W.cell? (a.add (i * 2)) = some (.string ⟨x.1.toArray⟩) ∧ W.cell? (a.add (i * 2 + 1)) = some (.string ⟨x.2.toArray⟩) := by
      intro i him
      obtain ⟨cs', h1, h2⟩ := hi i (by omega)
      rw [hc43] at h1
      obtain ⟨_, hcl, hat⟩ := World.cells?_some h1
      obtain ⟨xs, m', _, _, _, hxl, hel⟩ := DataW.trod_array Tryd.underlying43 h2
      rw [hc9] at hel
      have e0 := hel 0 (by omega)
      have e1 := hel 1 (by omega)
      rw [List.getElem?_eq_getElem (by omega)] at e0 e1
      obtain ⟨s0, f0, _, _⟩ := DataW.trod_string Tryd.underlying9 e0
      obtain ⟨s1, f1, _, _⟩ := DataW.trod_string Tryd.underlying9 e1
      have g0 := hat 0 (by omega)
      have g1 := hat 1 (by omega)
      match cs', hcl with
      | [c0, c1], _ =>
        simp at f0 f1 g0 g1
        subst f0
        subst f1
        refine ⟨⟨s0.data.toList, s1.data.toList⟩, ?_, ?_⟩
        · simpa [add_of_add] using g0
        · simpa [add_of_add] using g1
    obtain ⟨l, hll, hcells⟩ : ∃ l : List (Ini.Str × Ini.Str), l.length = n ∧ ∀ i (h : i < l.length), W.cell? (a.add (i * 2)) = some (.string ⟨l[i].1.toArray⟩) ∧ W.cell? (a.add (i * 2 + 1)) = some (.string ⟨l[i].2.toArray⟩) := by
      clear hi hx hl hm hmm hml hf hv
      induction n with
      | zero => exact ⟨[], rfl, fun i h => by simp at h⟩
      | succ n ih =>
        obtain ⟨l, hll, hl⟩ := ih (fun i hi => hget i (by omega))
        obtain ⟨x, hx⟩ := hget n (by omega)
        refine ⟨l ++ [x], by simp [hll], fun i hi => ?_⟩
        by_cases hil : i < l.length
        · rw [List.getElem_append_left hil]; exact hl i hil
        · have : i = l.length := by simp at hi; omega
          subst this
          rw [List.getElem_concat_length rfl, hll]; exact hx
    subst hll
    have hall : pairL.all l = l.flatMap (fun x => [Value.string ⟨x.1.toArray⟩, .string ⟨x.2.toArray⟩]) := rfl
    refine ⟨some a, c, l, rfl, ⟨pairL.all_len l, fun hn => ⟨a, rfl, ?_, ?_⟩⟩⟩
    · have h0 := (hcells 0 hn).1
      have := World.block_lt_of_cell? W _ h0
      rwa [block_of_add] at this
    · intro j u hj
      have hjl : j < l.length * 2 := by have := (List.getElem?_eq_some_iff.1 hj).1; rwa [pairL.all_len] at this
      have hk : j / 2 < l.length := by omega
      have e1 := pairL.all_at l (j / 2) l[j / 2] (List.getElem?_eq_getElem hk) 0 _ rfl
      have e2 := pairL.all_at l (j / 2) l[j / 2] (List.getElem?_eq_getElem hk) 1 _ rfl
      obtain ⟨q1, q2⟩ := hcells (j / 2) hk
      have e1 : (pairL.all l)[j / 2 * 2]? = some (.string ⟨(l[j / 2]).1.toArray⟩) := e1
      have e2 : (pairL.all l)[j / 2 * 2 + 1]? = some (.string ⟨(l[j / 2]).2.toArray⟩) := e2
      have hc : j = j / 2 * 2 ∨ j = j / 2 * 2 + 1 := by omega
      rcases hc with hc | hc
      · rw [hc] at hj ⊢; rw [e1] at hj; injection hj with hj; rw [← hj]; exact q1
      · rw [hc] at hj ⊢; rw [e2] at hj; injection hj with hj; rw [← hj]; exact q2
end
end Go.Proofs.YtegdemnfjmaicaaDoor

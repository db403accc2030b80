/- The parser's state, plain: its bounds hold after every line. -/
import Derived.Test.YtegdemnfjmaicaaDoorPlain
namespace Go.Proofs.YtegdemnfjmaicaaDoor
structure Fit (st : Ini.St) : Prop where
  node : st.node < st.nodes.length
  pos : 0 < st.nodes.length
  span : st.span < st.spans.length
  nl : st.nodes.length ≤ 4096
  sl : st.spans.length ≤ st.nodes.length
  keys : ∀ j (h : j < st.nodes.length), st.nodes[j].keys.length ≤ st.nodes.length ∧ st.nodes[j].items.length ≤ st.nodes.length ∧ ∀ k ∈ st.nodes[j].keys, k < st.nodes.length
namespace Ini
theorem setTo_length (l : List Sp) (k to : Nat) : (setTo l k to).length = l.length := by
  unfold setTo; split <;> simp
/-- what add answers, in its ways. -/
theorem add_cases (st : St) (node span : Nat) (key : Str) (n : Nd) (s : Sp) (hn : node < st.nodes.length) :
    (add st node span key n s = .err s.keyFrom 8) ∨ (add st node span key n s = .err s.keyFrom 7) ∨
    (st.nodes.length + 2 ≤ 4096 ∧ keyIn st.nodes node key = false ∧ add st node span key n s = .ok { st with
        nodes := (st.nodes ++ [⟨5, key, [], []⟩, n]).set node { st.nodes[node] with keys := st.nodes[node].keys ++ [st.nodes.length], items := st.nodes[node].items ++ [st.nodes.length + 1] }
        spans := st.spans ++ [{ s with node := st.nodes.length + 1, parent := span, entry := st.nodes[node].items.length }] }) := by
  unfold add
  cases hk : keyIn st.nodes node key with
  | true => exact .inl rfl
  | false =>
    by_cases hm : st.nodes.length + 2 > 4096
    · rw [if_neg (by simp), if_pos hm]; exact .inr (.inl rfl)
    · rw [if_neg (by simp), if_neg hm, List.getElem?_eq_getElem hn]
      exact .inr (.inr ⟨by omega, rfl, rfl⟩)
end Ini
theorem Fit.start (n : Nat) : Fit (Ini.start n) := by
  refine ⟨by simp [Ini.start], by simp [Ini.start], by simp [Ini.start], by simp [Ini.start], by simp [Ini.start], ?_⟩
  intro j h
  have : j = 0 := by simp [Ini.start] at h; omega
  subst this
  simp [Ini.start]
theorem Fit.add {st st' : Ini.St} {node span : Nat} {key : Ini.Str} {n : Ini.Nd} {s : Ini.Sp} (h : Fit st) (hn : node < st.nodes.length) (hk : n.keys = [] ∧ n.items = []) (e : Ini.add st node span key n s = .ok st') :
    Fit st' ∧ st'.nodes.length = st.nodes.length + 2 ∧ st'.spans.length = st.spans.length + 1 ∧ st'.node = st.node ∧ st'.span = st.span := by
  rcases Ini.add_cases st node span key n s hn with h1 | h1 | ⟨hm, _, h1⟩
  · rw [h1] at e; cases e
  · rw [h1] at e; cases e
  · rw [h1] at e
    injection e with e
    subst e
    have hh := h.node
    have hs := h.span
    have hsl := h.sl
    refine ⟨⟨?_, ?_, ?_, ?_, ?_, ?_⟩, by simp, by simp, rfl, rfl⟩
    · simp; omega
    · simp
    · simp; omega
    · simp; omega
    · simp; omega
    · intro j hj
      simp only [List.length_set, List.length_append, List.length_cons, List.length_nil] at hj ⊢
      rw [List.getElem_set]
      split
      · rename_i he
        subst he
        obtain ⟨k1, k2, k3⟩ := h.keys node hn
        simp only [List.length_append, List.length_cons, List.length_nil, List.mem_append, List.mem_singleton]
        refine ⟨by omega, by omega, ?_⟩
        rintro k (h2 | h2)
        · have := k3 k h2; omega
        · omega
      · by_cases hj2 : j < st.nodes.length
        · rw [List.getElem_append_left hj2]
          obtain ⟨k1, k2, k3⟩ := h.keys j hj2
          exact ⟨by omega, by omega, fun k h2 => by have := k3 k h2; omega⟩
        · rw [List.getElem_append_right (by omega)]
          have : j - st.nodes.length = 0 ∨ j - st.nodes.length = 1 := by omega
          rcases this with h2 | h2
          · simp [h2]
          · simp only [h2, List.getElem_cons_succ, List.getElem_cons_zero, hk.1, hk.2]
            simp
theorem Fit.header {st st' : Ini.St} {r : Ini.Str} {a : Nat} (h : Fit st) (e : Ini.header st r a = .ok st') : Fit st' := by
  unfold Ini.header at e
  simp only at e
  split at e
  · cases e
  · split at e
    · cases e
    · split at e
      · cases e
      · rename_i st1 e1
        injection e with e
        subst e
        obtain ⟨f, h1, h2, _⟩ := h.add h.pos ⟨rfl, rfl⟩ e1
        exact ⟨by simp only; have := f.pos; omega, f.pos, by simp only; have := f.span; omega, f.nl, f.sl, f.keys⟩
theorem Fit.setTo {st : Ini.St} (h : Fit st) (k to : Nat) : Fit { st with spans := Ini.setTo st.spans k to } :=
  ⟨h.node, h.pos, by simp only [Ini.setTo_length]; exact h.span, h.nl, by simp only [Ini.setTo_length]; exact h.sl, h.keys⟩
theorem Fit.entry {st st' : Ini.St} {r : Ini.Str} {a : Nat} (h : Fit st) (e : Ini.entry st r a = .ok st') : Fit st' := by
  unfold Ini.entry at e
  simp only at e
  split at e
  · cases e
  · split at e
    · cases e
    · split at e
      · cases e
      · rename_i st1 e1
        obtain ⟨f, h1, h2, _⟩ := h.add h.node ⟨rfl, rfl⟩ e1
        split at e
        · injection e with e
          subst e
          exact f.setTo _ _
        · injection e with e
          subst e
          exact f
theorem Fit.line {st st' : Ini.St} {r : Ini.Str} {a : Nat} (h : Fit st) (e : Ini.line st r a = .ok st') : Fit st' := by
  unfold Ini.line at e
  simp only at e
  split at e
  · injection e with e
    subst e
    exact h
  · split at e
    · injection e with e
      subst e
      exact ⟨h.node, h.pos, h.span, h.nl, h.sl, h.keys⟩
    · split at e
      · exact h.header e
      · exact h.entry e
end Go.Proofs.YtegdemnfjmaicaaDoor

/- The parser's memory while an entry is being added: the rows of numbers. -/
import Derived.Test.YtegdemnfjmaicaaDoorMid
namespace Go.Proofs.YtegdemnfjmaicaaDoor
open Go.RowKit
section
variable {B : Nat} {V : PV} {w : World} {pb : Nat} {s : Ini.Str} {st : Ini.St} {tcs ncs rcs : Array Value} {wx : World} {scs mcs : Array Value} {nv sv : Value} {vm vs : List NV} {ns : List Ini.Nd} {sp : List Ini.Sp}
theorem ints_at {vs : List NV} {j : Nat} {x : NV} (h : vs[j]? = some x) (b : Bool) : ints vs j b = if b then x.i else x.k := by unfold ints; rw [h]
theorem intsOf_at {ns : List Ini.Nd} {j : Nat} {m : Ini.Nd} (h : ns[j]? = some m) (b : Bool) : intsOf ns j b = if b then m.items else m.keys := by unfold intsOf; rw [h]
theorem ints_set {vs : List NV} {j : Nat} {x y : NV} (h : vs[j]? = some x) (j' : Nat) (b : Bool) : ints (vs.set j y) j' b = if j' = j then (if b then y.i else y.k) else ints vs j' b := by
  have hj : j < vs.length := (List.getElem?_eq_some_iff.1 h).1
  unfold ints
  by_cases he : j' = j
  · subst he; rw [if_pos rfl, List.getElem?_set_self hj]
  · rw [if_neg he, List.getElem?_set_ne (fun e => he e.symm)]
theorem AMid.keysOf (h : AMid B V w pb s st tcs ncs rcs wx scs mcs nv sv vm vs ns sp) {node : Nat} {x : NV} {m : Ini.Nd} (hv : vs[node]? = some x) (hn : ns[node]? = some m) :
    OwnRow intL wx B 3 x.k.v m.keys ∧ OwnRow intL wx B 3 x.i.v m.items := by
  have h1 := h.rows.own node false
  have h2 := h.rows.own node true
  rw [ints_at hv, intsOf_at hn] at h1 h2
  exact ⟨h1, h2⟩
theorem AMid.appKeys (h : AMid B V w pb s st tcs ncs rcs wx scs mcs nv sv vm vs ns sp) {node : Nat} {x : NV} {m : Ini.Nd} (hv : vs[node]? = some x) (hn : ns[node]? = some m) {w2 : World} {k' : SV} {kk : Nat}
    (hown : OwnRow intL w2 B 3 k'.v (m.keys ++ [kk])) (hg : wx.grownBy w2 x.k.v.ownBlock) (hat : k'.v.ownBlock = x.k.v.ownBlock ∨ k'.v.ownBlock = some wx.heap.size) :
    AMid B V w pb s st tcs ncs rcs (w2.setCell ⟨w.heap.size + 4, 3, none⟩ k'.v) scs (mcs.setIfInBounds 3 k'.v) nv sv vm (vs.set node ⟨x.kind, x.text, k', x.i⟩) (ns.set node { m with keys := m.keys ++ [kk] }) sp := by
  obtain ⟨hj, hx⟩ := List.getElem?_eq_some_iff.1 hv
  obtain ⟨hjn, hm⟩ := List.getElem?_eq_some_iff.1 hn
  have e0 := ints_at hv false
  have e1 := ints_at hv true
  have e2 := intsOf_at hn true
  refine h.appInts (.inl rfl) (h.keysOf hv hn).1 hg (fun g hg => ⟨node, false, by rw [e0]; exact hg⟩) ?_ ?_
  · refine h.rows.grow node false ⟨x.kind, x.text, k', x.i⟩ { m with keys := m.keys ++ [kk] } hj (by rw [hx]; exact ⟨rfl, rfl⟩) (by rw [hm]; exact ⟨rfl, rfl⟩) (by rw [Bool.not_false, e1]; rfl) (by rw [Bool.not_false, e2]; rfl) hown (by rw [e0]; exact hg) (by rw [e0]; exact hat)
  · intro j b g hg2
    rw [ints_set hv] at hg2
    by_cases he : j = node
    · rw [if_pos he] at hg2
      cases b with
      | true => exact .inl ⟨node, true, by rw [e1]; exact hg2⟩
      | false =>
        rcases hat with h1 | h1
        · exact .inl ⟨node, false, by rw [e0]; exact h1.symm.trans hg2⟩
        · have hz := h.size
          have : some g = some wx.heap.size := hg2.symm.trans h1
          injection this with this
          exact .inr (by omega)
    · rw [if_neg he] at hg2
      exact .inl ⟨j, b, hg2⟩
theorem AMid.appItems (h : AMid B V w pb s st tcs ncs rcs wx scs mcs nv sv vm vs ns sp) {node : Nat} {x : NV} {m : Ini.Nd} (hv : vs[node]? = some x) (hn : ns[node]? = some m) {w2 : World} {k' : SV} {kk : Nat}
    (hown : OwnRow intL w2 B 3 k'.v (m.items ++ [kk])) (hg : wx.grownBy w2 x.i.v.ownBlock) (hat : k'.v.ownBlock = x.i.v.ownBlock ∨ k'.v.ownBlock = some wx.heap.size) :
    AMid B V w pb s st tcs ncs rcs (w2.setCell ⟨w.heap.size + 4, 4, none⟩ k'.v) scs (mcs.setIfInBounds 4 k'.v) nv sv vm (vs.set node ⟨x.kind, x.text, x.k, k'⟩) (ns.set node { m with items := m.items ++ [kk] }) sp := by
  obtain ⟨hj, hx⟩ := List.getElem?_eq_some_iff.1 hv
  obtain ⟨hjn, hm⟩ := List.getElem?_eq_some_iff.1 hn
  have e0 := ints_at hv false
  have e1 := ints_at hv true
  have e2 := intsOf_at hn false
  refine h.appInts (.inr rfl) (h.keysOf hv hn).2 hg (fun g hg => ⟨node, true, by rw [e1]; exact hg⟩) ?_ ?_
  · refine h.rows.grow node true ⟨x.kind, x.text, x.k, k'⟩ { m with items := m.items ++ [kk] } hj (by rw [hx]; exact ⟨rfl, rfl⟩) (by rw [hm]; exact ⟨rfl, rfl⟩) (by rw [Bool.not_true, e0]; rfl) (by rw [Bool.not_true, e2]; rfl) hown (by rw [e1]; exact hg) (by rw [e1]; exact hat)
  · intro j b g hg2
    rw [ints_set hv] at hg2
    by_cases he : j = node
    · rw [if_pos he] at hg2
      cases b with
      | false => exact .inl ⟨node, false, by rw [e0]; exact hg2⟩
      | true =>
        rcases hat with h1 | h1
        · exact .inl ⟨node, true, by rw [e1]; exact h1.symm.trans hg2⟩
        · have hz := h.size
          have : some g = some wx.heap.size := hg2.symm.trans h1
          injection this with this
          exact .inr (by omega)
    · rw [if_neg he] at hg2
      exact .inl ⟨j, b, hg2⟩
end
end Go.Proofs.YtegdemnfjmaicaaDoor

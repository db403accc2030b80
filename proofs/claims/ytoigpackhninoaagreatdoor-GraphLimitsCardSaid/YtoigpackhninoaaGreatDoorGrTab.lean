/- Tables of nodes of the call's own: the nodes' row, and the rows of numbers. -/
import Derived.Test.YtoigpackhninoaaGreatDoorGrShift
namespace Go.Proofs.YtoigpackhninoaaGreatDoor
open Go.RowKit
/-- all blocks of a type are kept. -/
def KeptT (t : TypeId) (w w' : World) : Prop := ∀ g cs, Blk w g t cs → Blk w' g t cs
theorem KeptT.refl (t : TypeId) (w : World) : KeptT t w w := fun _ _ h => h
theorem KeptT.trans {t : TypeId} {a b c : World} (h : KeptT t a b) (k : KeptT t b c) : KeptT t a c := fun g cs x => k g cs (h g cs x)
theorem KeptT.later {t : TypeId} {w w' : World} (h : Below w.heap.size w w') : KeptT t w w' := fun _ _ x => x.below h x.lt
theorem KeptT.alloc (t : TypeId) (w : World) (o : Obj) : KeptT t w (w.alloc o) := fun _ _ x => x.alloc o
theorem KeptT.drewN (t : TypeId) (w : World) (n : Nat) : KeptT t w (w.drewN n) := fun _ _ x => x
theorem KeptT.drew (t : TypeId) (w : World) : KeptT t w w.drew := fun _ _ x => x
theorem KeptT.setCell {t t' : TypeId} {w : World} {p : Addr} {cs : Array Value} (h : Blk w p.block t' cs) (hne : t ≠ t') (u : Value) : KeptT t w (w.setCell p u) :=
  fun _ _ x => x.far (fun e => by subst e; exact Blk.ne_ x h hne rfl) u
theorem KeptT.grown {t t' : TypeId} {w w' : World} {v : Value} {base : Nat} {size n : Nat} {xs : List Value} (hg : w.grownBy w' v.ownBlock) (h : w.ownsRow base t' size v n xs) (hne : t' ≠ t) : KeptT t w w' :=
  fun _ _ x => x.grown hg (fun e => own_blk_ne h x hne e.symm)
section
variable {α : Type} {L : Lay α} {w w' : World} {B base : Nat} {E : TypeId} {v : Value} {l : List α}
theorem OwnRow.kept (h : OwnRow L w base E v l) (hk : KeptT E w w') : OwnRow L w' base E v l := by
  refine ⟨h.1, ?_⟩
  rcases h.2 with hn | ⟨g, cap, cur, rfl, hbg, hgg, rest⟩
  · exact .inl hn
  · exact .inr ⟨g, cap, cur, rfl, hbg, hk g cur hgg, rest⟩
theorem OwnRow.drew (h : OwnRow L w base E v l) : OwnRow L w.drew base E v l := h
theorem OwnRow.blk (h : OwnRow L w base E v l) (g : Nat) (hg : v.ownBlock = some g) : ∃ cs, Blk w g E cs := by
  rcases h.2 with ⟨rfl, _⟩ | ⟨g', cap, cur, rfl, hbg, hgg, rest⟩
  · cases hg
  · simp [Value.ownBlock] at hg
    subst hg
    exact ⟨cur, hgg⟩
theorem OwnRow.grown_other (h : OwnRow L w base E v l) {row : Option Nat} (hg : w.grownBy w' row) (hne : ∀ g, v.ownBlock = some g → row ≠ some g) : OwnRow L w' base E v l := by
  refine ⟨h.1, ?_⟩
  rcases h.2 with hn | ⟨g, cap, cur, rfl, hbg, hgg, rest⟩
  · exact .inl hn
  · refine .inr ⟨g, cap, cur, rfl, hbg, ?_, rest⟩
    rw [hg.block g (Blk.lt (t := E) (cs := cur) hgg) (fun e => hne g (by simp [Value.ownBlock]) e.symm)]
    exact hgg
/-- a row's block, its spare cells beside it. -/
theorem OwnRow.row (h : OwnRow L w base E v l) (hl : l ≠ []) :
    ∃ g cap rest, v = .slice (some ⟨g, 0, none⟩) l.length cap ∧ l.length ≤ cap ∧ Blk w g E (L.all l ++ rest).toArray ∧ base ≤ g ∧ (∀ w' l', l'.length = l.length → Blk w' g E (L.all l' ++ rest).toArray → OwnRow L w' base E v l') := by
  rcases h.2 with ⟨_, hn⟩ | ⟨g, cap, cur, hv, hbg, hh, hc, hm, hcs, htk⟩
  · exact absurd (List.eq_nil_of_length_eq_zero hn) hl
  · have hcl := L.all_len l
    have hsplit : cur = (L.all l ++ cur.toList.drop (l.length * L.sz)).toArray := by
      apply Array.ext'
      rw [← htk]; simp
    have hle : l.length * L.sz ≤ cap * L.sz := Nat.mul_le_mul_right _ hc
    refine ⟨g, cap, cur.toList.drop (l.length * L.sz), hv, hc, ?_, hbg, fun w' l' hl' hS => ?_⟩
    · unfold Blk; rw [← hsplit]; exact hh
    · have hcl' := L.all_len l'
      refine ⟨hcl', .inr ⟨g, cap, _, by rw [hl']; exact hv, hbg, hS, by omega, hm, ?_, ?_⟩⟩
      · simp only [List.size_toArray, List.length_append, List.length_drop, Array.length_toList]
        rw [hl'] at hcl'
        omega
      · simp only
        rw [List.take_append_of_le_length (by omega), List.take_of_length_le (by omega)]
end
/-- one cell of one element. -/
theorem all_cell {α : Type} (L : Lay α) (l : List α) (k j : Nat) (x : α) (u : Value) (hk : k < l.length) (hj : j < L.sz) (he : L.enc x = (L.enc l[k]).set j u) : L.all (l.set k x) = (L.all l).set (k * L.sz + j) u := by
  induction l generalizing k with
  | nil => simp at hk
  | cons y l ih =>
    cases k with
    | zero =>
      have e1 : L.all (x :: l) = L.enc x ++ L.all l := rfl
      have e2 : L.all (y :: l) = L.enc y ++ L.all l := rfl
      simp only [List.getElem_cons_zero] at he
      simp only [List.set_cons_zero, Nat.zero_mul, Nat.zero_add]
      rw [e1, e2, he, List.set_append_left _ _ (by rw [L.len]; exact hj)]
    | succ k =>
      have e1 : L.all (y :: l.set k x) = L.enc y ++ L.all (l.set k x) := rfl
      have e2 : L.all (y :: l) = L.enc y ++ L.all l := rfl
      rw [List.set_cons_succ, e1, e2, ih k (by simpa using hk) (by simpa using he)]
      rw [List.set_append_right _ _ (by rw [L.len, Nat.add_mul]; omega), L.len]
      rw [show (k + 1) * L.sz + j - L.sz = k * L.sz + j from by rw [Nat.add_mul]; omega]
theorem blk_cell {α : Type} (L : Lay α) {w : World} {g : Nat} {E : TypeId} {l : List α} {rest : List Value} (h : Blk w g E (L.all l ++ rest).toArray) (k j : Nat) (x : α) (u : Value) (hk : k < l.length) (hj : j < L.sz) (he : L.enc x = (L.enc l[k]).set j u) :
    Blk (w.setCell ⟨g, k * L.sz + j, none⟩ u) g E (L.all (l.set k x) ++ rest).toArray := by
  have hl := L.all_len l
  have h2 : k * L.sz + L.sz ≤ l.length * L.sz := by
    have : (k + 1) * L.sz ≤ l.length * L.sz := Nat.mul_le_mul_right _ hk
    rw [Nat.add_mul] at this; omega
  have h5 := h.set_ (k * L.sz + j) u
  have e : (L.all l ++ rest).toArray.setIfInBounds (k * L.sz + j) u = (L.all (l.set k x) ++ rest).toArray := by
    apply Array.ext'
    rw [Array.toList_setIfInBounds, all_cell L l k j x u hk hj he]
    exact List.set_append_left _ _ (by omega)
  rw [e] at h5
  exact h5
/-- a node stored over a node. -/
theorem nodes_set5 {w : World} {g : Nat} {l : List NV} {rest : List Value} (h : Blk w g 35 (nodeL.all l ++ rest).toArray) (k : Nat) (hk : k < l.length) (x : NV) :
    Blk (((((w.setCell ⟨g, k * 5, none⟩ (.int .i64 x.kind)).setCell ⟨g, k * 5 + 1, none⟩ (.string ⟨x.text.toArray⟩)).setCell ⟨g, k * 5 + 2, none⟩ (.bool x.ord)).setCell ⟨g, k * 5 + 3, none⟩ x.k.v).setCell ⟨g, k * 5 + 4, none⟩ x.i.v) g 35 (nodeL.all (l.set k x) ++ rest).toArray := by
  obtain ⟨y, hy⟩ : ∃ y, l[k] = y := ⟨_, rfl⟩
  have h1 := blk_cell nodeL h k 0 ⟨x.kind, y.text, y.ord, y.k, y.i⟩ (.int .i64 x.kind) hk (by decide) (by rw [hy]; rfl)
  have h2 := blk_cell nodeL h1 k 1 ⟨x.kind, x.text, y.ord, y.k, y.i⟩ (.string ⟨x.text.toArray⟩) (by simpa using hk) (by decide) (by rw [List.getElem_set_self]; rfl)
  have h3 := blk_cell nodeL h2 k 2 ⟨x.kind, x.text, x.ord, y.k, y.i⟩ (.bool x.ord) (by simpa using hk) (by decide) (by rw [List.getElem_set_self]; rfl)
  have h4 := blk_cell nodeL h3 k 3 ⟨x.kind, x.text, x.ord, x.k, y.i⟩ x.k.v (by simpa using hk) (by decide) (by rw [List.getElem_set_self]; rfl)
  have h5 := blk_cell nodeL h4 k 4 x x.i.v (by simpa using hk) (by decide) (by rw [List.getElem_set_self]; rfl)
  simp only [List.set_set] at h5
  exact h5
/-- a node's items stored. -/
theorem nodes_setI {w : World} {g : Nat} {l : List NV} {rest : List Value} (h : Blk w g 35 (nodeL.all l ++ rest).toArray) (k : Nat) (hk : k < l.length) (i : SV) :
    Blk (w.setCell ⟨g, k * 5 + 4, none⟩ i.v) g 35 (nodeL.all (l.set k { l[k] with i := i }) ++ rest).toArray :=
  blk_cell nodeL h k 4 { l[k] with i := i } i.v hk (by decide) rfl
/-- a node's keys stored. -/
theorem nodes_setK {w : World} {g : Nat} {l : List NV} {rest : List Value} (h : Blk w g 35 (nodeL.all l ++ rest).toArray) (k : Nat) (hk : k < l.length) (i : SV) :
    Blk (w.setCell ⟨g, k * 5 + 3, none⟩ i.v) g 35 (nodeL.all (l.set k { l[k] with k := i }) ++ rest).toArray :=
  blk_cell nodeL h k 3 { l[k] with k := i } i.v hk (by decide) rfl
/-- the rows of numbers of a list of nodes. -/
def ints (vs : List NV) (j : Nat) (b : Bool) : SV := match vs[j]? with
  | some x => if b then x.i else x.k
  | none => SV.nil
def intsOf (ns : List Gr.Nd) (j : Nat) (b : Bool) : List Nat := match ns[j]? with
  | some m => if b then m.items else m.keys
  | none => []
structure Rows (B : Nat) (w : World) (vs : List NV) (ns : List Gr.Nd) : Prop where
  len : vs.length = ns.length
  kind : ∀ j (h : j < vs.length) (h2 : j < ns.length), vs[j].kind = ns[j].kind ∧ vs[j].text = ns[j].text ∧ vs[j].ord = ns[j].ord
  own : ∀ j b, OwnRow intL w B 3 (ints vs j b).v (intsOf ns j b)
  apart : ∀ j b j' b' g, (ints vs j b).v.ownBlock = some g → (ints vs j' b').v.ownBlock = some g → j = j' ∧ b = b'
theorem Rows.kept {B : Nat} {w w' : World} {vs : List NV} {ns : List Gr.Nd} (h : Rows B w vs ns) (hk : KeptT 3 w w') : Rows B w' vs ns :=
  ⟨h.len, h.kind, fun j b => (h.own j b).kept hk, h.apart⟩
theorem ints_snoc (vs : List NV) (x : NV) (j : Nat) (b : Bool) : ints (vs ++ [x]) j b = if j = vs.length then (if b then x.i else x.k) else ints vs j b := by
  unfold ints
  by_cases hj : j < vs.length
  · rw [List.getElem?_append_left hj, if_neg (by omega)]
  · rw [List.getElem?_append_right (by omega), List.getElem?_eq_none (l := vs) (by omega)]
    by_cases he : j = vs.length
    · rw [if_pos he, he, Nat.sub_self]; rfl
    · rw [if_neg he, List.getElem?_eq_none (by simp; omega)]
theorem intsOf_snoc (ns : List Gr.Nd) (x : Gr.Nd) (j : Nat) (b : Bool) : intsOf (ns ++ [x]) j b = if j = ns.length then (if b then x.items else x.keys) else intsOf ns j b := by
  unfold intsOf
  by_cases hj : j < ns.length
  · rw [List.getElem?_append_left hj, if_neg (by omega)]
  · rw [List.getElem?_append_right (by omega), List.getElem?_eq_none (l := ns) (by omega)]
    by_cases he : j = ns.length
    · rw [if_pos he, he, Nat.sub_self]; rfl
    · rw [if_neg he, List.getElem?_eq_none (by simp; omega)]
theorem Rows.snoc {B : Nat} {w : World} {vs : List NV} {ns : List Gr.Nd} (h : Rows B w vs ns) (x : NV) (m : Gr.Nd) (hx : x.kind = m.kind ∧ x.text = m.text ∧ x.ord = m.ord) (ok : OwnRow intL w B 3 x.k.v m.keys) (oi : OwnRow intL w B 3 x.i.v m.items)
    (hki : ∀ g, x.k.v.ownBlock = some g → x.i.v.ownBlock = some g → False) (hold : ∀ j b g, (ints vs j b).v.ownBlock = some g → x.k.v.ownBlock ≠ some g ∧ x.i.v.ownBlock ≠ some g) : Rows B w (vs ++ [x]) (ns ++ [m]) := by
  have hlen := h.len
  refine ⟨by simp [hlen], ?_, ?_, ?_⟩
  · intro j h1 h2
    by_cases hj : j < vs.length
    · rw [List.getElem_append_left hj, List.getElem_append_left (by omega)]
      exact h.kind j hj (by omega)
    · have : j = vs.length := by simp at h1; omega
      subst this
      rw [List.getElem_concat_length rfl, List.getElem_concat_length hlen]
      exact hx
  · intro j b
    rw [ints_snoc, intsOf_snoc, ← hlen]
    by_cases hj : j = vs.length
    · rw [if_pos hj, if_pos hj]; cases b
      · exact ok
      · exact oi
    · rw [if_neg hj, if_neg hj]; exact h.own j b
  · intro j b j' b' g h1 h2
    rw [ints_snoc] at h1 h2
    by_cases hj : j = vs.length
    · rw [if_pos hj] at h1
      by_cases hj' : j' = vs.length
      · rw [if_pos hj'] at h2
        refine ⟨by rw [hj, hj'], ?_⟩
        cases b <;> cases b' <;> simp at h1 h2 ⊢
        · exact hki g h1 h2
        · exact hki g h2 h1
      · rw [if_neg hj'] at h2
        have := hold j' b' g h2
        cases b <;> simp at h1
        · exact absurd h1 this.1
        · exact absurd h1 this.2
    · rw [if_neg hj] at h1
      by_cases hj' : j' = vs.length
      · rw [if_pos hj'] at h2
        have := hold j b g h1
        cases b' <;> simp at h2
        · exact absurd h2 this.1
        · exact absurd h2 this.2
      · rw [if_neg hj'] at h2
        exact h.apart j b j' b' g h1 h2
/-- one row of numbers has grown. -/
theorem Rows.grow {B : Nat} {w w' : World} {vs : List NV} {ns : List Gr.Nd} (h : Rows B w vs ns) (j : Nat) (b : Bool) (x : NV) (m : Gr.Nd) (hj : j < vs.length)
    (hx : x.kind = vs[j].kind ∧ x.text = vs[j].text ∧ x.ord = vs[j].ord) (hm : m.kind = (ns[j]'(by rw [← h.len]; exact hj)).kind ∧ m.text = (ns[j]'(by rw [← h.len]; exact hj)).text ∧ m.ord = (ns[j]'(by rw [← h.len]; exact hj)).ord)
    (hb : (if b then x.k else x.i) = ints vs j (!b)) (hbm : (if b then m.keys else m.items) = intsOf ns j (!b))
    (hown : OwnRow intL w' B 3 (if b then x.i else x.k).v (if b then m.items else m.keys)) (hg : w.grownBy w' (ints vs j b).v.ownBlock)
    (hat : (if b then x.i else x.k).v.ownBlock = (ints vs j b).v.ownBlock ∨ (if b then x.i else x.k).v.ownBlock = some w.heap.size) : Rows B w' (vs.set j x) (ns.set j m) := by
  have hlen := h.len
  have hjn : j < ns.length := by omega
  have e1 : ∀ j' b', ints (vs.set j x) j' b' = if j' = j then (if b' then x.i else x.k) else ints vs j' b' := by
    intro j' b'
    unfold ints
    by_cases he : j' = j
    · subst he; rw [if_pos rfl, List.getElem?_set_self hj]
    · rw [if_neg he, List.getElem?_set_ne (fun e => he e.symm)]
  have e2 : ∀ j' b', intsOf (ns.set j m) j' b' = if j' = j then (if b' then m.items else m.keys) else intsOf ns j' b' := by
    intro j' b'
    unfold intsOf
    by_cases he : j' = j
    · subst he; rw [if_pos rfl, List.getElem?_set_self hjn]
    · rw [if_neg he, List.getElem?_set_ne (fun e => he e.symm)]
  have e3 : ∀ j' b', ¬ (j' = j ∧ b' = b) → ints (vs.set j x) j' b' = ints vs j' b' ∧ intsOf (ns.set j m) j' b' = intsOf ns j' b' := by
    intro j' b' hne
    rw [e1, e2]
    by_cases he : j' = j
    · subst he
      have hb' : b' = !b := by cases b <;> cases b' <;> simp_all
      subst hb'
      rw [if_pos rfl, if_pos rfl, ← hb, ← hbm]
      cases b <;> simp
    · rw [if_neg he, if_neg he]; exact ⟨rfl, rfl⟩
  refine ⟨by simp [hlen], ?_, ?_, ?_⟩
  · intro j' h1 h2
    by_cases he : j = j'
    · subst he
      rw [List.getElem_set_self, List.getElem_set_self]
      have := h.kind j hj hjn
      exact ⟨by rw [hx.1, hm.1, this.1], by rw [hx.2.1, hm.2.1, this.2.1], by rw [hx.2.2, hm.2.2, this.2.2]⟩
    · rw [List.getElem_set_ne he, List.getElem_set_ne he]
      exact h.kind j' (by simpa using h1) (by simpa using h2)
  · intro j' b'
    by_cases hc : j' = j ∧ b' = b
    · obtain ⟨rfl, rfl⟩ := hc
      rw [e1, e2, if_pos rfl, if_pos rfl]
      exact hown
    · rw [(e3 j' b' hc).1, (e3 j' b' hc).2]
      exact (h.own j' b').grown_other hg (fun g hg1 hg2 => hc (h.apart j' b' j b g hg1 hg2))
  · have hnew : ∀ j' b' g, ¬ (j' = j ∧ b' = b) → (ints vs j' b').v.ownBlock = some g → (if b then x.i else x.k).v.ownBlock = some g → False := by
      intro j' b' g hc h1 h2
      rcases hat with h3 | h3
      · rw [h3] at h2
        exact hc (h.apart j' b' j b g h1 h2)
      · rw [h3] at h2
        injection h2 with h2
        have := (h.own j' b').lt g h1
        omega
    intro j1 b1 j2 b2 g h1 h2
    by_cases hc1 : j1 = j ∧ b1 = b
    · by_cases hc2 : j2 = j ∧ b2 = b
      · exact ⟨by rw [hc1.1, hc2.1], by rw [hc1.2, hc2.2]⟩
      · rw [(e3 j2 b2 hc2).1] at h2
        rw [hc1.1, hc1.2, e1, if_pos rfl] at h1
        exact (hnew j2 b2 g hc2 h2 h1).elim
    · rw [(e3 j1 b1 hc1).1] at h1
      by_cases hc2 : j2 = j ∧ b2 = b
      · rw [hc2.1, hc2.2, e1, if_pos rfl] at h2
        exact (hnew j1 b1 g hc1 h1 h2).elim
      · rw [(e3 j2 b2 hc2).1] at h2
        exact h.apart j1 b1 j2 b2 g h1 h2
theorem Rows.later {B : Nat} {w w' : World} {vs : List NV} {ns : List Gr.Nd} (h : Rows B w vs ns) (hb : Below w.heap.size w w') : Rows B w' vs ns := h.kept (KeptT.later hb)
theorem Rows.nil (B : Nat) (w : World) : Rows B w [] [] :=
  ⟨rfl, fun j h => by simp at h, fun j b => by simp [ints, intsOf, SV.nil, SV.v]; exact OwnRow.nil, fun j b j' b' g h => by simp [ints, SV.nil, SV.v, Value.ownBlock] at h⟩
/-- a table of nodes. -/
structure Tab (B : Nat) (w : World) (v : Value) (vs : List NV) (ns : List Gr.Nd) : Prop where
  row : OwnRow nodeL w B 35 v vs
  rows : Rows B w vs ns
theorem Tab.later {B : Nat} {w w' : World} {v : Value} {vs : List NV} {ns : List Gr.Nd} (h : Tab B w v vs ns) (hb : Below w.heap.size w w') : Tab B w' v vs ns := ⟨h.row.later hb, h.rows.later hb⟩
theorem SV.row {w : World} {B : Nat} {x : SV} {l : List Nat} (h : OwnRow intL w B 3 x.v l) : RowAt intL w w.heap.size x.a l ∧ x.n = l.length := by
  obtain ⟨A, c, hv, hr⟩ := h.form
  unfold SV.v at hv
  injection hv with e1 e2 e3
  subst e1
  exact ⟨hr, e2⟩
theorem Tab.at_ {B : Nat} {w : World} {v : Value} {vs : List NV} {ns : List Gr.Nd} (h : Tab B w v vs ns) : ∃ A c, v = .slice A ns.length c ∧ GAt w w.heap.size A vs ns := by
  obtain ⟨A, c, hv, hr⟩ := h.row.form
  refine ⟨A, c, by rw [hv, h.rows.len], hr, h.rows.len, h.rows.kind, fun j h1 h2 => ?_⟩
  have ek : (ints vs j false) = vs[j].k := by unfold ints; rw [List.getElem?_eq_getElem h1]; rfl
  have ei : (ints vs j true) = vs[j].i := by unfold ints; rw [List.getElem?_eq_getElem h1]; rfl
  have fk : (intsOf ns j false) = ns[j].keys := by unfold intsOf; rw [List.getElem?_eq_getElem h2]; rfl
  have fi : (intsOf ns j true) = ns[j].items := by unfold intsOf; rw [List.getElem?_eq_getElem h2]; rfl
  have o1 := h.rows.own j false
  have o2 := h.rows.own j true
  rw [ek, fk] at o1
  rw [ei, fi] at o2
  exact ⟨(SV.row o1).1, (SV.row o1).2, (SV.row o2).1, (SV.row o2).2⟩
end Go.Proofs.YtoigpackhninoaaGreatDoor

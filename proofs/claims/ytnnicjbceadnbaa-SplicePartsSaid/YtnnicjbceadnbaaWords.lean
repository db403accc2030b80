/- Words for slices of edits and of pieces. -/
import Derived.Test.YtnnicjbceadnbaaBase
import Derived.Test.YtnnicjbceadnbaaPlain
namespace Go.Proofs.Ytnnicjbceadnbaa
open Go.RowKit
open Sp (Ed)
theorem _root_.Go.RowKit.Below.drewN {B : Nat} {a w : World} (h : Below B a w) (n : Nat) : Below B a (w.drewN n) := ⟨h.os, h.tape, h.output, h.size, h.block⟩
def edCells (x : Ed) : List Value := [.int .i64 x.f, .int .i64 x.t, .string ⟨x.s.toArray⟩]
def edsCells (l : List Ed) : List Value := l.flatMap edCells
theorem edsCells_len (l : List Ed) : (edsCells l).length = l.length * 3 := by
  induction l with
  | nil => rfl
  | cons x l ih => simp [edsCells, edCells] at *; omega
theorem edsCells_at (l : List Ed) (k : Nat) (x : Ed) (h : l[k]? = some x) : (edsCells l)[k * 3]? = some (.int .i64 x.f) ∧ (edsCells l)[k * 3 + 1]? = some (.int .i64 x.t) ∧ (edsCells l)[k * 3 + 2]? = some (.string ⟨x.s.toArray⟩) := by
  induction l generalizing k with
  | nil => simp at h
  | cons y l ih =>
    cases k with
    | zero => simp at h; subst h; simp [edsCells, edCells]
    | succ k =>
      simp at h
      have := ih k h
      simp [edsCells, edCells, Nat.add_mul] at *
      exact this
/-- a slice of edits. -/
def EdsAt (w : World) (B : Nat) (A : Option Addr) (l : List Ed) : Prop := Reads w B 3 A l.length (edsCells l)
theorem add_pos_form (a : Addr) (i j : Nat) (hj : 0 < j) : a.add (i + j) = { block := (a.add i).block, off := (a.add i).off + j } := by
  unfold Addr.add
  rw [if_neg (by omega)]
  split <;> simp_all <;> omega
theorem EdsAt.at_ {w : World} {B : Nat} {A : Option Addr} {l : List Ed} {k : Nat} (h : EdsAt w B A l) (hk : k < l.length) :
    ∃ ad, A = some ad ∧ ad.block < B ∧ w.cell? (ad.add (k * 3)) = some (.int .i64 l[k].f) ∧ w.cell? { block := (ad.add (k * 3)).block, off := (ad.add (k * 3)).off + 1 } = some (.int .i64 l[k].t) ∧ w.cell? { block := (ad.add (k * 3)).block, off := (ad.add (k * 3)).off + 2 } = some (.string ⟨l[k].s.toArray⟩) := by
  obtain ⟨ad, e, hb, hc⟩ := h.2 (by omega)
  obtain ⟨h1, h2, h3⟩ := edsCells_at l k l[k] (List.getElem?_eq_getElem hk)
  exact ⟨ad, e, hb, hc _ _ h1, by rw [← add_pos_form _ _ _ (by omega)]; exact hc _ _ h2, by rw [← add_pos_form _ _ _ (by omega)]; exact hc _ _ h3⟩

theorem EdsAt.nil (w : World) (B : Nat) : EdsAt w B none [] := Reads.none_
theorem edsCells_append (l r : List Ed) : edsCells (l ++ r) = edsCells l ++ edsCells r := by simp [edsCells]
theorem edsCells_one (l : List Ed) : ∀ u ∈ edsCells l, u.oneCell' = true := by
  intro u hu
  simp only [edsCells, List.mem_flatMap, edCells] at hu
  obtain ⟨x, _, hx⟩ := hu
  simp at hx
  rcases hx with rfl | rfl | rfl <;> rfl
/-- a row of the call's own: edits or pieces (E: the type's number). -/
def OwnEds (w : World) (base : Nat) (E : TypeId) (v : Value) (l : List Ed) : Prop := w.ownsRow base E 3 v l.length (edsCells l)
theorem OwnEds.nil (w : World) (base : Nat) (E : TypeId) : OwnEds w base E (.slice none 0 0) [] := World.ownsRow_nil w base E 3
theorem OwnEds.form {w : World} {base : Nat} {E : TypeId} {v : Value} {l : List Ed} (h : OwnEds w base E v l) : ∃ A c, v = .slice A l.length c ∧ EdsAt w w.heap.size A l := by
  have h' := h
  rcases h.2 with ⟨hv, hn⟩ | ⟨g, cap, cur, hv, _⟩
  · have hl : l = [] := List.eq_nil_of_length_eq_zero hn
    subst hl
    exact ⟨none, 0, hv, EdsAt.nil _ _⟩
  · exact ⟨_, cap, hv, Reads.of_own (c := cap) (by rw [← hv]; exact h')⟩
theorem OwnEds.below {w w' : World} {base B : Nat} {E : TypeId} {v : Value} {l : List Ed} (h : OwnEds w base E v l) (hb : Below B w w') (hB : ∀ k, v.ownBlock = some k → k < B) : OwnEds w' base E v l := by
  refine ⟨h.1, ?_⟩
  rcases h.2 with hn | ⟨g, cap, cur, rfl, hbg, hgg, rest⟩
  · exact .inl hn
  · exact .inr ⟨g, cap, cur, rfl, hbg, by rw [hb.block g (hB g (by simp [Value.ownBlock]))]; exact hgg, rest⟩
theorem OwnEds.lit {w : World} {base : Nat} (hb : base ≤ w.heap.size) (E : TypeId) (x : Ed) :
    OwnEds (w.alloc (.cells #[.int .i64 x.f, .int .i64 x.t, .string ⟨x.s.toArray⟩] E)) base E (.slice (some ⟨w.heap.size, 0, none⟩) 1 1) [x] :=
  ⟨rfl, .inr ⟨w.heap.size, 1, _, rfl, hb, heap_alloc_new w _, Nat.le_refl _, by simp [maxLen], rfl, rfl⟩⟩
/-- a boxed edit, seen from any later world. -/
theorem box_ed {w wk : World} {x y z : Value} {T : TypeId} (h : Below (w.alloc (.cells #[x, y, z] T)).heap.size (w.alloc (.cells #[x, y, z] T)) wk) :
    wk.cell? ⟨w.heap.size, 0, none⟩ = some x ∧ wk.cell? ⟨w.heap.size, 1, none⟩ = some y ∧ wk.cell? ⟨w.heap.size, 2, none⟩ = some z := by
  refine ⟨?_, ?_, ?_⟩ <;> (rw [h.cell (by simp)]; simp [go_sem])
theorem OwnEds.alloc {w : World} {base : Nat} {E : TypeId} {v : Value} {l : List Ed} (h : OwnEds w base E v l) (o : Obj) : OwnEds (w.alloc o) base E v l := World.ownsRow.alloc h o
theorem OwnEds.drewN {w : World} {base : Nat} {E : TypeId} {v : Value} {l : List Ed} (h : OwnEds w base E v l) (n : Nat) : OwnEds (w.drewN n) base E v l := h
theorem extract_list (s : List UInt8) (i j : Nat) : (⟨s.toArray⟩ : ByteArray).extract i j = ⟨((s.drop i).take (j - i)).toArray⟩ := by
  apply ByteArray.ext
  apply Array.ext'
  simp [ByteArray.extract, ByteArray.copySlice, List.extract]
theorem cat_list (s t : List UInt8) : (⟨s.toArray⟩ : ByteArray) ++ ⟨t.toArray⟩ = ⟨(s ++ t).toArray⟩ := by
  apply ByteArray.ext
  simp
/-- 't' is the type of slices of 'e', whose elements have the three cells of an edit. -/
structure EdType (P : Program) (t e : TypeId) : Prop where
  und : P.underlying t = some (.slice e)
  info : (P.info? e).map (fun i => (i.zero, i.size, i.bytes)) = some (some (.agg #[.int .i64 0, .int .i64 0, .string ByteArray.empty]), 3, 32)
theorem edT : EdType Try.prog 22 48 := ⟨Try.underlying22, by kernel_rfl⟩
theorem pcT : EdType Try.prog 54 61 := ⟨Try.underlying54, by kernel_rfl⟩
section
variable {P : Program} (w : World)
theorem wpList_append_eds {ops : Array Oper} {rest : List Oper} {o : Oper} {a : Act} {Q : Exit → Act → World → Prop} (hgd : o.guard = none) (s x : Operand) (t e : TypeId)
    (ho : o.op = .call { callee := .builtin .append, args := #[s, x], argTypes := #[t, t] }) (hT : EdType P t e)
    (base : Nat) (v : Value) (l : List Ed) (hs : a.eval s = v) (hown : OwnEds w base e v l)
    (B : Nat) (A : Option Addr) (c : Nat) (m : List Ed) (hx : a.eval x = .slice A m.length c) (hr : EdsAt w B A m)
    (hlen : l.length + m.length ≤ 1073741824) (hbase : base ≤ w.heap.size)
    (h : ∀ v' w', OwnEds w' base e v' (l ++ m) → w.grownBy w' v.ownBlock → (v'.ownBlock = v.ownBlock ∨ v'.ownBlock = some w.heap.size) → wpList P ops Q rest (a.put o.dst v') w') : wpList P ops Q (o :: rest) a w := by
  obtain ⟨i0, hi, hz0, hz1, hz2⟩ := info_parts hT.info
  refine wpList_append_any w hgd s x t ho base e i0 _ 3 32 hT.und hi hz0 hz1 hz2 rfl (by omega) v l.length (edsCells l) hs hown B A m.length c (edsCells m) hx hr (edsCells_one m) (by simp only [maxLen]; omega) (by omega) hbase ?_
  intro v' w' h1 h2 h3
  refine h v' w' ?_ h2 h3
  unfold OwnEds
  rw [List.length_append, edsCells_append]
  exact h1
end
/-- a slice literal of one edit. -/
theorem EdsAt.lit {w : World} {E : TypeId} (f t : Int) (s : List UInt8) (n : Nat) (hn : n = w.heap.size) :
    EdsAt (w.alloc (.cells #[.int .i64 f, .int .i64 t, .string ⟨s.toArray⟩] E)) (w.heap.size + 1) (some ⟨n, 0, none⟩) [⟨f, t, s⟩] := by
  subst hn
  have h := Reads.of_own (OwnEds.lit (Nat.le_refl w.heap.size) E ⟨f, t, s⟩)
  rw [World.size_alloc] at h
  exact h
/-- of a row of the call's own: where it lies. -/
theorem OwnEds.lt {w : World} {base : Nat} {E : TypeId} {v : Value} {l : List Ed} (h : OwnEds w base E v l) : ∀ k, v.ownBlock = some k → base ≤ k ∧ k < w.heap.size := World.ownsRow.lt h
theorem OwnEds.grown_below {w w' : World} {base : Nat} {E : TypeId} {v : Value} {l : List Ed} (h : OwnEds w base E v l) (hg : w.grownBy w' v.ownBlock) (hb : base ≤ w.heap.size) : Below base w w' :=
  (Below.refl base w).grown hg hb (fun k hk => (h.lt k hk).1)
theorem OwnEds.ne_ {w : World} {base : Nat} {E : TypeId} {v : Value} {l : List Ed} (h : OwnEds w base E v l) {g : Nat} (hg : w.heap.size ≤ g) : some g ≠ v.ownBlock := by
  intro e
  have := h.lt g e.symm
  omega
/-- a box that is not the row's own block is kept by an append onto it. -/
theorem grown_box {w w' : World} {row : Option Nat} (hg : w.grownBy w' row) {g : Nat} (hlt : g < w.heap.size) (hne : some g ≠ row) {i : Nat} {v : Value} (hc : w.cell? ⟨g, i, none⟩ = some v) : w'.cell? ⟨g, i, none⟩ = some v :=
  (World.cell?_of_block (w := w) (hg.block g hlt hne)).trans hc
end Go.Proofs.Ytnnicjbceadnbaa

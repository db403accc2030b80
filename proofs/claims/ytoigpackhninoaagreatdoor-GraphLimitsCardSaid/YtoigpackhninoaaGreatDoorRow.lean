/- Slices that read as lists of any element type: 'enc' writes an element as its cells, 'sz' is their number. -/
import Derived.Test.YtoigpackhninoaaGreatDoorBase
namespace Go.Proofs.YtoigpackhninoaaGreatDoor
open Go.RowKit

/-- how elements of a type lie in memory. -/
structure Lay (α : Type) where
  enc : α → List Value
  sz : Nat
  len : ∀ x, (enc x).length = sz
  one : ∀ x, ∀ u ∈ enc x, u.oneCell' = true
  pos : 0 < sz

section
variable {α : Type} (L : Lay α)
def Lay.all (l : List α) : List Value := l.flatMap L.enc
theorem Lay.all_len (l : List α) : (L.all l).length = l.length * L.sz := by
  induction l with
  | nil => simp [Lay.all]
  | cons x l ih => simp only [Lay.all, List.flatMap_cons, List.length_append, L.len, List.length_cons, Nat.add_mul, Nat.one_mul] at *; omega
theorem Lay.all_append (l r : List α) : L.all (l ++ r) = L.all l ++ L.all r := by simp [Lay.all]
theorem Lay.all_one (l : List α) : ∀ u ∈ L.all l, u.oneCell' = true := by
  intro u hu
  simp only [Lay.all, List.mem_flatMap] at hu
  obtain ⟨x, _, hx⟩ := hu
  exact L.one x u hx
theorem Lay.all_at (l : List α) (k : Nat) (x : α) (h : l[k]? = some x) (j : Nat) (u : Value) (hj : (L.enc x)[j]? = some u) : (L.all l)[k * L.sz + j]? = some u := by
  induction l generalizing k with
  | nil => simp at h
  | cons y l ih =>
    have hjl : j < L.sz := by
      have := (List.getElem?_eq_some_iff.1 hj).1
      rwa [L.len] at this
    cases k with
    | zero =>
      simp at h; subst h
      simp only [Lay.all, List.flatMap_cons, Nat.zero_mul, Nat.zero_add]
      rw [List.getElem?_append_left (by rw [L.len]; exact hjl)]
      exact hj
    | succ k =>
      simp at h
      have := ih k h
      simp only [Lay.all, List.flatMap_cons] at this ⊢
      rw [List.getElem?_append_right (by rw [L.len, Nat.add_mul]; omega), L.len]
      rw [show (k + 1) * L.sz + j - L.sz = k * L.sz + j from by rw [Nat.add_mul]; omega]
      exact this
/-- a slice that reads as l. -/
def RowAt (w : World) (B : Nat) (A : Option Addr) (l : List α) : Prop := Reads w B L.sz A l.length (L.all l)
/-- a row of the call's own. -/
def OwnRow (w : World) (base : Nat) (E : TypeId) (v : Value) (l : List α) : Prop := w.ownsRow base E L.sz v l.length (L.all l)
end
theorem add_pos_form' (a : Addr) (i j : Nat) (hj : 0 < j) : a.add (i + j) = { block := (a.add i).block, off := (a.add i).off + j } := by
  unfold Addr.add
  rw [if_neg (by omega)]
  split <;> simp_all <;> omega
section
variable {α : Type} {L : Lay α} {w w' : World} {B B' base : Nat} {E : TypeId} {A : Option Addr} {v : Value} {l m : List α}
theorem RowAt.nil : RowAt L w B none [] := Reads.none_
/-- element k, cell by cell. -/
theorem RowAt.get {k : Nat} (h : RowAt L w B A l) (hk : k < l.length) :
    ∃ ad, A = some ad ∧ ad.block < B ∧ (∀ u, (L.enc l[k])[0]? = some u → w.cell? (ad.add (k * L.sz)) = some u) ∧
      ∀ j u, 0 < j → (L.enc l[k])[j]? = some u → w.cell? { block := (ad.add (k * L.sz)).block, off := (ad.add (k * L.sz)).off + j } = some u := by
  obtain ⟨ad, e, hb, hc⟩ := h.2 (by omega)
  have hx : l[k]? = some l[k] := List.getElem?_eq_getElem hk
  refine ⟨ad, e, hb, fun u hu => hc _ _ ?_, fun j u hj hu => ?_⟩
  · have := L.all_at l k l[k] hx 0 u hu
    simpa using this
  · rw [← add_pos_form' _ _ _ hj]
    exact hc _ _ (L.all_at l k l[k] hx j u hu)
theorem RowAt.below (h : RowAt L w B A l) (hb : Below B w w') : RowAt L w' B A l := Reads.below h hb
theorem RowAt.more (h : RowAt L w B A l) (hB : B ≤ B') : RowAt L w B' A l := Reads.more h hB
theorem RowAt.alloc (h : RowAt L w B A l) (hB : B ≤ w.heap.size) (o : Obj) : RowAt L (w.alloc o) B A l := Reads.alloc h hB o
theorem RowAt.drewN (h : RowAt L w B A l) (n : Nat) : RowAt L (w.drewN n) B A l := h
theorem OwnRow.nil : OwnRow L w base E (.slice none 0 0) [] := World.ownsRow_nil w base E L.sz
theorem OwnRow.form (h : OwnRow L w base E v l) : ∃ A c, v = .slice A l.length c ∧ RowAt L w w.heap.size A l := by
  have h' := h
  rcases h.2 with ⟨hv, hn⟩ | ⟨g, cap, cur, hv, _⟩
  · have hl : l = [] := List.eq_nil_of_length_eq_zero hn
    subst hl
    exact ⟨none, 0, hv, RowAt.nil⟩
  · exact ⟨_, cap, hv, Reads.of_own (c := cap) (by rw [← hv]; exact h')⟩
theorem OwnRow.below (h : OwnRow L w base E v l) (hb : Below B w w') (hB : ∀ k, v.ownBlock = some k → k < B) : OwnRow L w' base E v l := by
  refine ⟨h.1, ?_⟩
  rcases h.2 with hn | ⟨g, cap, cur, rfl, hbg, hgg, rest⟩
  · exact .inl hn
  · exact .inr ⟨g, cap, cur, rfl, hbg, by rw [hb.block g (hB g (by simp [Value.ownBlock]))]; exact hgg, rest⟩
theorem OwnRow.lt (h : OwnRow L w base E v l) : ∀ k, v.ownBlock = some k → base ≤ k ∧ k < w.heap.size := World.ownsRow.lt h
theorem OwnRow.later (h : OwnRow L w base E v l) (hb : Below w.heap.size w w') : OwnRow L w' base E v l := h.below hb (fun k hk => (h.lt k hk).2)
theorem OwnRow.alloc (h : OwnRow L w base E v l) (o : Obj) : OwnRow L (w.alloc o) base E v l := World.ownsRow.alloc h o
theorem OwnRow.drewN (h : OwnRow L w base E v l) (n : Nat) : OwnRow L (w.drewN n) base E v l := h
theorem grownBy_setCell' (w : World) (p : Addr) (u : Value) : w.grownBy (w.setCell p u) (some p.block) :=
  ⟨rfl, rfl, rfl, by simp [World.setCell], fun k _ hne => Below.heap_setCell w p u k (fun e => hne (by rw [e]))⟩
theorem OwnRow.setCell (h : OwnRow L w base E v l) {p : Addr} (hp : v.ownBlock ≠ some p.block) (u : Value) : OwnRow L (w.setCell p u) base E v l :=
  World.ownsRow.kept h (grownBy_setCell' w p u) (.inr hp)
theorem OwnRow.grown_below (h : OwnRow L w base E v l) (hg : w.grownBy w' v.ownBlock) (hb : base ≤ w.heap.size) : Below base w w' :=
  (Below.refl base w).grown hg hb (fun k hk => (h.lt k hk).1)
theorem OwnRow.ne_ (h : OwnRow L w base E v l) {g : Nat} (hg : w.heap.size ≤ g) : some g ≠ v.ownBlock := by
  intro e
  have := h.lt g e.symm
  omega
theorem OwnRow.lower {base' : Nat} (h : OwnRow L w base E v l) (hb : base' ≤ base) : OwnRow L w base' E v l := by
  refine ⟨h.1, ?_⟩
  rcases h.2 with hn | ⟨g, cap, cur, rfl, hbg, rest⟩
  · exact .inl hn
  · exact .inr ⟨g, cap, cur, rfl, by omega, rest⟩
/-- a slice literal of one element, as the walk lays it. -/
theorem OwnRow.lit1 (hb : base ≤ w.heap.size) (x : α) (cs : Array Value) (hcs : cs.toList = L.enc x) :
    OwnRow L (w.alloc (.cells cs E)) base E (.slice (some ⟨w.heap.size, 0, none⟩) 1 1) [x] := by
  have hsz : cs.size = L.sz := by rw [← Array.length_toList, hcs, L.len]
  refine ⟨by simp [Lay.all, L.len], .inr ⟨w.heap.size, 1, _, rfl, hb, heap_alloc_new w _, Nat.le_refl _, by simp [maxLen], by simp [hsz], ?_⟩⟩
  rw [hcs]
  simp [Lay.all, List.take_of_length_le, L.len]
theorem RowAt.lit1 (x : α) (cs : Array Value) (hcs : cs.toList = L.enc x) (n : Nat) (hn : n = w.heap.size) : RowAt L (w.alloc (.cells cs E)) (w.heap.size + 1) (some ⟨n, 0, none⟩) [x] := by
  subst hn
  have h := Reads.of_own (OwnRow.lit1 (L := L) (E := E) (Nat.le_refl w.heap.size) x cs hcs)
  rw [World.size_alloc] at h
  exact h
end
/-- a box that is not the row's own block is kept by an append onto it. -/
theorem grown_cell {w w' : World} {row : Option Nat} (hg : w.grownBy w' row) {g : Nat} (hlt : g < w.heap.size) (hne : some g ≠ row) {i : Nat} {v : Value} (hc : w.cell? ⟨g, i, none⟩ = some v) : w'.cell? ⟨g, i, none⟩ = some v :=
  (World.cell?_of_block (w := w) (hg.block g hlt hne)).trans hc
/-- 't' is the type of slices of 'e', whose elements lie as L says; 'bytes' each. -/
structure SliceT (P : Program) {α : Type} (L : Lay α) (t e : TypeId) (bytes : Nat) : Prop where
  und : P.underlying t = some (.slice e)
  info : ∃ i z, P.info? e = some i ∧ i.zero = some z ∧ i.size = L.sz ∧ i.bytes = bytes ∧ z.cells.size = L.sz
  small : bytes ≤ 256
section
variable {P : Program} {α : Type} {L : Lay α} (w : World)
theorem wpList_append_row {ops : Array Oper} {rest : List Oper} {o : Oper} {a : Act} {Q : Exit → Act → World → Prop} (hgd : o.guard = none) (s x : Operand) (t e : TypeId) (bytes : Nat)
    (ho : o.op = .call { callee := .builtin .append, args := #[s, x], argTypes := #[t, t] }) (hT : SliceT P L t e bytes)
    (base : Nat) (v : Value) (l : List α) (hs : a.eval s = v) (hown : OwnRow L w base e v l)
    (B : Nat) (A : Option Addr) (c : Nat) (m : List α) (hx : a.eval x = .slice A m.length c) (hr : RowAt L w B A m)
    (hlen : l.length + m.length ≤ 1073741824) (hbase : base ≤ w.heap.size)
    (h : ∀ v' w', OwnRow L w' base e v' (l ++ m) → w.grownBy w' v.ownBlock → (v'.ownBlock = v.ownBlock ∨ v'.ownBlock = some w.heap.size) → wpList P ops Q rest (a.put o.dst v') w') : wpList P ops Q (o :: rest) a w := by
  obtain ⟨i0, z, hi, hz0, hz1, hz2, hz3⟩ := hT.info
  have hb : (l.length + m.length) * bytes ≤ 1073741824 * 256 := Nat.mul_le_mul hlen hT.small
  refine wpList_append_any w hgd s x t ho base e i0 z L.sz bytes hT.und hi hz0 hz1 hz2 hz3 L.pos v l.length (L.all l) hs hown B A m.length c (L.all m) hx hr (L.all_one m) (by simp only [maxLen]; omega) (by omega) hbase ?_
  intro v' w' h1 h2 h3
  refine h v' w' ?_ h2 h3
  unfold OwnRow
  rw [List.length_append, L.all_append]
  exact h1
/-- the same as one step of a region that draws its order. -/
theorem step_append_row {ops : Array Oper} {o : Oper} {a : Act} {K : Act → World → Prop} {Q : Exit → Act → World → Prop} {E : Prop} (hgd : o.guard = none) (s x : Operand) (t e : TypeId) (bytes : Nat)
    (ho : o.op = .call { callee := .builtin .append, args := #[s, x], argTypes := #[t, t] }) (hT : SliceT P L t e bytes)
    (base : Nat) (v : Value) (l : List α) (hs : a.eval s = v) (hown : OwnRow L w base e v l)
    (B : Nat) (A : Option Addr) (c : Nat) (m : List α) (hx : a.eval x = .slice A m.length c) (hr : RowAt L w B A m)
    (hlen : l.length + m.length ≤ 1073741824) (hbase : base ≤ w.heap.size)
    (h : ∀ v' w', OwnRow L w' base e v' (l ++ m) → w.grownBy w' v.ownBlock → (v'.ownBlock = v.ownBlock ∨ v'.ownBlock = some w.heap.size) → K (a.put o.dst v') w') :
    if Region.wanted o (yielded ops a.tmps) = true then Oper.wp P o a w K Q else E := by
  obtain ⟨i0, z, hi, hz0, hz1, hz2, hz3⟩ := hT.info
  have hb : (l.length + m.length) * bytes ≤ 1073741824 * 256 := Nat.mul_le_mul hlen hT.small
  refine step_append_any w hgd s x t ho base e i0 z L.sz bytes hT.und hi hz0 hz1 hz2 hz3 L.pos v l.length (L.all l) hs hown B A m.length c (L.all m) hx hr (L.all_one m) (by simp only [maxLen]; omega) (by omega) hbase ?_
  intro v' w' h1 h2 h3
  refine h v' w' ?_ h2 h3
  unfold OwnRow
  rw [List.length_append, L.all_append]
  exact h1
end
/-- what a call has kept: all blocks but those in S. -/
structure KeptBut' (w w' : World) (S : Nat → Prop) : Prop where
  os : w'.os = w.os
  tape : w'.tape = w.tape
  output : w'.output = w.output
  size : w.heap.size ≤ w'.heap.size
  block : ∀ k, k < w.heap.size → ¬ S k → w'.heap[k]? = w.heap[k]?
theorem KeptBut'.below {w w' : World} {S : Nat → Prop} {B : Nat} (h : KeptBut' w w' S) (hB : B ≤ w.heap.size) (hS : ∀ k, S k → B ≤ k) : Below B w w' :=
  ⟨h.os, h.tape, h.output, h.size, fun k hk => h.block k (by omega) (fun hs => by have := hS k hs; omega)⟩
theorem KeptBut'.cell {w w' : World} {S : Nat → Prop} (h : KeptBut' w w' S) {g i : Nat} {v : Value} (hc : w.cell? ⟨g, i, none⟩ = some v) (hS : ¬ S g) : w'.cell? ⟨g, i, none⟩ = some v :=
  (World.cell?_of_block (w := w) (h.block g (World.block_lt_of_cell? w ⟨g, i, none⟩ hc) hS)).trans hc
theorem extract_list' (s : List UInt8) (i j : Nat) : (⟨s.toArray⟩ : ByteArray).extract i j = ⟨((s.drop i).take (j - i)).toArray⟩ := by
  apply ByteArray.ext
  apply Array.ext'
  simp [ByteArray.extract, ByteArray.copySlice, List.extract]
theorem cat_list' (s t : List UInt8) : (⟨s.toArray⟩ : ByteArray) ++ ⟨t.toArray⟩ = ⟨(s ++ t).toArray⟩ := by
  apply ByteArray.ext
  simp
section
variable {α : Type} {L : Lay α} {w : World} {B base : Nat} {E : TypeId} {A : Option Addr} {v : Value} {l : List α}
theorem OwnRow.form' (h : OwnRow L w base E v l) : ∃ A c, v = .slice A l.length c ∧ RowAt L w w.heap.size A l ∧ l.length ≤ c := by
  have h' := h
  rcases h.2 with ⟨hv, hn⟩ | ⟨g, cap, cur, hv, _, _, hc, _⟩
  · have hl : l = [] := List.eq_nil_of_length_eq_zero hn
    subst hl
    exact ⟨none, 0, hv, RowAt.nil, by simp⟩
  · exact ⟨_, cap, hv, Reads.of_own (c := cap) (by rw [← hv]; exact h'), hc⟩
theorem Lay.all_drop (l : List α) (k : Nat) : L.all (l.drop k) = (L.all l).drop (k * L.sz) := by
  induction l generalizing k with
  | nil => simp [Lay.all]
  | cons x l ih =>
    cases k with
    | zero => simp
    | succ k =>
      have e : L.all (x :: l) = L.enc x ++ L.all l := rfl
      have h1 : (L.enc x).drop ((k + 1) * L.sz) = [] := List.drop_eq_nil_of_le (by rw [L.len, Nat.add_mul]; omega)
      rw [List.drop_succ_cons, ih, e, List.drop_append, h1, L.len, List.nil_append, show (k + 1) * L.sz - L.sz = k * L.sz from by rw [Nat.add_mul]; omega]
theorem Lay.all_take (l : List α) (k : Nat) : L.all (l.take k) = (L.all l).take (k * L.sz) := by
  induction l generalizing k with
  | nil => simp [Lay.all]
  | cons x l ih =>
    cases k with
    | zero => simp [Lay.all]
    | succ k =>
      have e : L.all (x :: l) = L.enc x ++ L.all l := rfl
      have e2 : L.all (x :: l.take k) = L.enc x ++ L.all (l.take k) := rfl
      have h1 : (L.enc x).take ((k + 1) * L.sz) = L.enc x := List.take_of_length_le (by rw [L.len, Nat.add_mul]; omega)
      rw [List.take_succ_cons, e2, ih, e, List.take_append, h1, L.len, show (k + 1) * L.sz - L.sz = k * L.sz from by rw [Nat.add_mul]; omega]
theorem RowAt.take (h : RowAt L w B A l) (k : Nat) (hk : k ≤ l.length) : RowAt L w B A (l.take k) := by
  refine ⟨L.all_len _, fun hn => ?_⟩
  rw [List.length_take] at hn
  obtain ⟨ad, e, hb, hc⟩ := h.2 (by omega)
  refine ⟨ad, e, hb, fun j u hj => hc j u ?_⟩
  rw [Lay.all_take, List.getElem?_take] at hj
  split at hj
  · exact hj
  · cases hj
theorem RowAt.drop (h : RowAt L w B A l) {k cap : Nat} (hk : k ≤ l.length) (hc : l.length ≤ cap) : RowAt L w B (if cap = k then A else A.map (·.add (k * L.sz))) (l.drop k) := by
  have := Reads.cut h hk hc
  unfold RowAt
  rw [List.length_drop, Lay.all_drop]
  exact this
/-- what lies between two indices. -/
theorem RowAt.sub (h : RowAt L w B A l) {k m cap : Nat} (hkm : k ≤ m) (hm : m ≤ l.length) (hc : l.length ≤ cap) : RowAt L w B (if cap = k then A else A.map (·.add (k * L.sz))) ((l.drop k).take (m - k)) :=
  (h.drop (by omega) hc).take (m - k) (by rw [List.length_drop]; omega)
end
section
variable {P : Program}
theorem run_slice_lh (t e : TypeId) (i : TypeInfo) (ht : P.underlying t = some (.slice e)) (hi : P.info? e = some i) (a : Option Addr) (n c : Nat) (k m : Nat) (hkm : k ≤ m) (hm : m ≤ c) (w : World) :
    (Instr.slice t (.slice a n c) (some (.int .i64 (k : Int))) (some (.int .i64 (m : Int))) none).run P w = .ok (.slice (if c = k then a else a.map (·.add (k * i.size))) (m - k) (c - k)) w := by
  have e1 : ∀ code, (Instr.sliceBound (.int .i64 (m : Int)) c code).run P w = .ok m w := fun code => by
    rw [run_sliceBound (P := P) (w := w) .i64 m c code (by omega) (by omega)]; simp
  have e2 : ∀ code, (Instr.sliceBound (.int .i64 (k : Int)) m code).run P w = .ok k w := fun code => by
    rw [run_sliceBound (P := P) (w := w) .i64 k m code (by omega) (by omega)]; simp
  simp [Instr.slice, run_underlying ht, Instr.sliceBounds, sizeOf, typeInfo, hi, e1, e2]
theorem run_slice_l (t e : TypeId) (i : TypeInfo) (ht : P.underlying t = some (.slice e)) (hi : P.info? e = some i) (a : Option Addr) (n c k : Nat) (hk : k ≤ n) (w : World) :
    (Instr.slice t (.slice a n c) (some (.int .i64 (k : Int))) none none).run P w = .ok (.slice (if c = k then a else a.map (·.add (k * i.size))) (n - k) (c - k)) w := by
  have e1 : ∀ code, (Instr.sliceBound (.int .i64 (k : Int)) n code).run P w = .ok k w := fun code => by
    rw [run_sliceBound (P := P) (w := w) .i64 k n code (by omega) (by omega)]; simp
  simp [Instr.slice, run_underlying ht, Instr.sliceBounds, sizeOf, typeInfo, hi, e1]
theorem run_slice_h (t e : TypeId) (i : TypeInfo) (ht : P.underlying t = some (.slice e)) (hi : P.info? e = some i) (a : Option Addr) (n c m : Nat) (hm : m ≤ c) (w : World) :
    (Instr.slice t (.slice a n c) none (some (.int .i64 (m : Int))) none).run P w = .ok (.slice (if c = 0 then a else a.map (·.add (0 * i.size))) m c) w := by
  have e1 : ∀ code, (Instr.sliceBound (.int .i64 (m : Int)) c code).run P w = .ok m w := fun code => by
    rw [run_sliceBound (P := P) (w := w) .i64 m c code (by omega) (by omega)]; simp
  simp [Instr.slice, run_underlying ht, Instr.sliceBounds, sizeOf, typeInfo, hi, e1]
theorem run_slice_lhI (t e : TypeId) (i : TypeInfo) (ht : P.underlying t = some (.slice e)) (hi : P.info? e = some i) (a : Option Addr) (n c : Nat) (k m : Int) (h0 : 0 ≤ k) (hkm : k ≤ m) (hm : m ≤ c) (w : World) :
    (Instr.slice t (.slice a n c) (some (.int .i64 k)) (some (.int .i64 m)) none).run P w = .ok (.slice (if c = k.toNat then a else a.map (·.add (k.toNat * i.size))) (m.toNat - k.toNat) (c - k.toNat)) w := by
  have := run_slice_lh (P := P) t e i ht hi a n c k.toNat m.toNat (by omega) (by omega) w
  rwa [show ((k.toNat : Nat) : Int) = k from by omega, show ((m.toNat : Nat) : Int) = m from by omega] at this
theorem run_slice_lI (t e : TypeId) (i : TypeInfo) (ht : P.underlying t = some (.slice e)) (hi : P.info? e = some i) (a : Option Addr) (n c : Nat) (k : Int) (h0 : 0 ≤ k) (hk : k ≤ n) (w : World) :
    (Instr.slice t (.slice a n c) (some (.int .i64 k)) none none).run P w = .ok (.slice (if c = k.toNat then a else a.map (·.add (k.toNat * i.size))) (n - k.toNat) (c - k.toNat)) w := by
  have := run_slice_l (P := P) t e i ht hi a n c k.toNat (by omega) w
  rwa [show ((k.toNat : Nat) : Int) = k from by omega] at this
end
end Go.Proofs.YtoigpackhninoaaGreatDoor

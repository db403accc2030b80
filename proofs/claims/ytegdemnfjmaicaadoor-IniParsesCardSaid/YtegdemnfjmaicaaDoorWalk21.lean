/- Walks: Parse, its lines. -/
import Derived.Test.YtegdemnfjmaicaaDoorSets
namespace Go.Proofs.YtegdemnfjmaicaaDoor
open Go.RowKit Go.Shelf
attribute [local go_sem] Oper.semAt_some
/-- cells from B on are kept. -/
def KeptAll (B : Nat) (W W' : World) : Prop := ∀ g t cs, B ≤ g → Blk W g t cs → Blk W' g t cs
theorem KeptAll.of_grown {W W' : World} {row : Option Nat} (hg : W.grownBy W' row) (hr : ∀ r, row = some r → ∃ o : Obj, W.heap[r]? = some o ∧ o.isCells = false) (B : Nat) : KeptAll B W W' := fun g t cs _ hb =>
  (hg.block g hb.lt (fun e => by
    obtain ⟨o, ho, hc⟩ := hr g e.symm
    have hb' : W.heap[g]? = some (.cells cs t (0, 0)) := hb
    rw [hb'] at ho
    cases ho
    cases hc)).trans hb
section
variable {α : Type} {L : Lay α} {w w' : World} {base : Nat} {E : TypeId} {v : Value} {l : List α} {B : Nat} {V : PV} {pb g : Nat} {s : Ini.Str} {st : Ini.St} {t : TypeId} {cs : Array Value}
theorem OwnRow.keptFrom (h : OwnRow L w base E v l) (hk : KeptAll base w w') : OwnRow L w' base E v l := by
  refine ⟨h.1, ?_⟩
  rcases h.2 with hn | ⟨g, cap, cur, rfl, hbg, hgg, rest⟩
  · exact .inl hn
  · exact .inr ⟨g, cap, cur, rfl, hbg, hk g E cur hbg hgg, rest⟩
theorem PAt.keptAll (h : PAt B V w pb s st) (hk : KeptAll B w w') (hs : w.heap.size ≤ w'.heap.size) : PAt B V w' pb s st :=
  ⟨h.le, Nat.le_trans h.base hs, hk _ _ _ h.le h.blk, h.nodes.keptFrom hk, h.spans.keptFrom hk, h.notes.keptFrom hk, ⟨h.rows.len, h.rows.kind, fun j b => (h.rows.own j b).keptFrom hk, h.rows.apart⟩⟩
theorem Blk.type_eq {t' : TypeId} {cs' : Array Value} (h : Blk w g t cs) (h' : Blk w g t' cs') : t = t' := by
  have e1 : w.heap[g]? = some (.cells cs t (0, 0)) := h
  have e2 : w.heap[g]? = some (.cells cs' t' (0, 0)) := h'
  rw [e1] at e2
  injection e2 with e2
  injection e2
theorem PAt.own_ty (h : PAt B V w pb s st) (hg : V.own pb g) (hb : Blk w g t cs) : t = 62 ∨ t = 49 ∨ t = 45 ∨ t = 54 ∨ t = 3 := by
  rcases hg with rfl | hg | hg | hg | ⟨j, b, hg⟩
  · exact .inl (hb.type_eq h.blk)
  · obtain ⟨_, h2⟩ := h.nodes.blk g hg; exact .inr (.inl (hb.type_eq h2))
  · obtain ⟨_, h2⟩ := h.spans.blk g hg; exact .inr (.inr (.inl (hb.type_eq h2)))
  · obtain ⟨_, h2⟩ := h.notes.blk g hg; exact .inr (.inr (.inr (.inl (hb.type_eq h2))))
  · obtain ⟨_, h2⟩ := (h.rows.own j b).blk g hg; exact .inr (.inr (.inr (.inr (hb.type_eq h2))))
end
/-- the first state's values. -/
def V0 (nb sb : Nat) : PV := ⟨.slice (some ⟨nb, 0, none⟩) 1 1, .slice (some ⟨sb, 0, none⟩) 1 1, .slice none 0 0, [⟨10, [], SV.nil, SV.nil⟩], .int .i64 0, .int .i64 0⟩
theorem rows_start (B : Nat) (w : World) (n : Nat) : Rows B w [⟨10, [], SV.nil, SV.nil⟩] (Ini.start n).nodes := by
  have e1 : ∀ j b, ints [⟨10, [], SV.nil, SV.nil⟩] j b = SV.nil := by
    intro j b
    unfold ints
    cases j with
    | zero => cases b <;> rfl
    | succ j => rfl
  have e2 : ∀ j b, intsOf (Ini.start n).nodes j b = [] := by
    intro j b
    unfold intsOf Ini.start
    cases j with
    | zero => cases b <;> rfl
    | succ j => rfl
  refine ⟨rfl, ?_, fun j b => by rw [e1, e2]; exact OwnRow.nil, ?_⟩
  · intro j h1 h2
    have : j = 0 := by simp at h1; omega
    subst this
    exact ⟨rfl, rfl⟩
  · intro j b j' b' g h
    rw [e1] at h
    cases h
theorem start_at (B : Nat) (w4 : World) (hB : B ≤ w4.heap.size) (s : Ini.Str) (W : World) (hW : (((w4.alloc (.cells (pcells (V0 (w4.heap.size + 1 + 1) (w4.heap.size + 1 + 1 + 1)) s 0 0) 62)).alloc (.cells #[.pointer (some ⟨w4.heap.size, 0, none⟩)] 58)).alloc (.cells #[.int .i64 10, .string ⟨#[]⟩, .bool false, .slice none 0 0, .slice none 0 0] 49)).alloc
      (.cells #[.int .i64 0, .int .i64 (-1), .int .i64 0, .int .i64 0, .int .i64 s.length, .int .i64 0, .int .i64 0, .bool false, .bool false] 45) = W) :
    PAt B (V0 (w4.heap.size + 1 + 1) (w4.heap.size + 1 + 1 + 1)) W w4.heap.size s (Ini.start s.length) ∧ Blk W (w4.heap.size + 1) 58 #[.pointer (some ⟨w4.heap.size, 0, none⟩)] ∧ Below w4.heap.size w4 W ∧ W.heap.size = w4.heap.size + 4 := by
  obtain ⟨w1, hw1⟩ : ∃ w1, w4.alloc (.cells (pcells (V0 (w4.heap.size + 1 + 1) (w4.heap.size + 1 + 1 + 1)) s 0 0) 62) = w1 := ⟨_, rfl⟩
  have z1 : w1.heap.size = w4.heap.size + 1 := by rw [← hw1]; simp
  have b1 : Blk w1 w4.heap.size 62 (pcells (V0 (w4.heap.size + 1 + 1) (w4.heap.size + 1 + 1 + 1)) s 0 0) := by rw [← hw1]; exact Blk.new _ _ _
  have l1 : Below w4.heap.size w4 w1 := by rw [← hw1]; exact (Below.refl _ _).alloc (Nat.le_refl _) _
  rw [hw1] at hW
  obtain ⟨w2, hw2⟩ : ∃ w2, w1.alloc (.cells #[.pointer (some ⟨w4.heap.size, 0, none⟩)] 58) = w2 := ⟨_, rfl⟩
  have z2 : w2.heap.size = w4.heap.size + 1 + 1 := by rw [← hw2]; simp [z1]
  have b2 : Blk w2 (w4.heap.size + 1) 58 #[.pointer (some ⟨w4.heap.size, 0, none⟩)] := by rw [← hw2, ← z1]; exact Blk.new _ _ _
  have c2 : Blk w2 w4.heap.size 62 (pcells (V0 (w4.heap.size + 1 + 1) (w4.heap.size + 1 + 1 + 1)) s 0 0) := by rw [← hw2]; exact b1.alloc _
  have l2 : Below w4.heap.size w4 w2 := by rw [← hw2]; exact l1.alloc (by omega) _
  rw [hw2] at hW
  obtain ⟨w3, hw3⟩ : ∃ w3, w2.alloc (.cells #[.int .i64 10, .string ⟨#[]⟩, .bool false, .slice none 0 0, .slice none 0 0] 49) = w3 := ⟨_, rfl⟩
  have z3 : w3.heap.size = w4.heap.size + 1 + 1 + 1 := by rw [← hw3]; simp [z2]
  have n3 : OwnRow nodeL w3 B 49 (.slice (some ⟨w4.heap.size + 1 + 1, 0, none⟩) 1 1) [⟨10, [], SV.nil, SV.nil⟩] := by rw [← hw3, ← z2]; exact OwnRow.lit1 (by omega) _ _ rfl
  have b3 : Blk w3 (w4.heap.size + 1) 58 #[.pointer (some ⟨w4.heap.size, 0, none⟩)] := by rw [← hw3]; exact b2.alloc _
  have c3 : Blk w3 w4.heap.size 62 (pcells (V0 (w4.heap.size + 1 + 1) (w4.heap.size + 1 + 1 + 1)) s 0 0) := by rw [← hw3]; exact c2.alloc _
  have l3 : Below w4.heap.size w4 w3 := by rw [← hw3]; exact l2.alloc (by omega) _
  rw [hw3] at hW
  have s4 : OwnRow spanL W B 45 (.slice (some ⟨w4.heap.size + 1 + 1 + 1, 0, none⟩) 1 1) (Ini.start s.length).spans := by rw [← hW, ← z3]; exact OwnRow.lit1 (by omega) _ _ rfl
  refine ⟨⟨hB, by rw [← hW]; simp [z3]; omega, by rw [← hW]; exact c3.alloc _, by rw [← hW]; exact n3.alloc _, s4, OwnRow.nil, rows_start _ _ _⟩, by rw [← hW]; exact b3.alloc _, by rw [← hW]; exact l3.alloc (by omega) _, by rw [← hW]; simp [z3]⟩
/-- between two lines. -/
def PI (w : World) (pb pv sb : Nat) (s : Ini.Str) (pre : List (Ln s)) (W : World) : Prop :=
  (∃ st V, Ini.runs s (Ln.vals pre) (Ini.start s.length) = .ok st ∧ PAt (w.heap.size + 3) V W pb s st) ∧ RBox w W ∧ Blk W pv 58 #[.pointer (some ⟨pb, 0, none⟩)] ∧ Blk W sb 9 #[.string ⟨s.toArray⟩]
/-- a line has failed. -/
def PIx (w : World) (s : Ini.Str) (pre : List (Ln s)) (W : World) : Prop :=
  ∃ a c : Nat, Ini.runs s (Ln.vals pre) (Ini.start s.length) = .err a c ∧ RFull w W (.int .i64 0) (.string ⟨#[]⟩) (.slice none 0 0) (.int .i64 0) (.slice none 0 0) (.slice none 0 0) (.int .i64 a) (.int .i64 c)
theorem RBox.keptAll {w W W' : World} (h : RBox w W) (hk : KeptAll 0 W W') (hb : Below w.heap.size w W') (hs : W.heap.size ≤ W'.heap.size) : RBox w W' :=
  ⟨hb, Nat.le_trans h.size hs, hk _ _ _ (Nat.zero_le _) h.d, hk _ _ _ (Nat.zero_le _) h.a, hk _ _ _ (Nat.zero_le _) h.e⟩
theorem RFull.keptAll {w W W' : World} {v0 v1 v2 v3 v4 v5 a e : Value} (h : RFull w W v0 v1 v2 v3 v4 v5 a e) (hk : KeptAll 0 W W') (hb : Below w.heap.size w W') : RFull w W' v0 v1 v2 v3 v4 v5 a e :=
  ⟨hb, hk _ _ _ (Nat.zero_le _) h.d, hk _ _ _ (Nat.zero_le _) h.a, hk _ _ _ (Nat.zero_le _) h.e⟩
theorem KeptAll.mono {B B' : Nat} {W W' : World} (h : KeptAll B W W') (hB : B ≤ B') : KeptAll B' W W' := fun g t cs hg hb => h g t cs (Nat.le_trans hB hg) hb
theorem PI.own (w : World) (pb pv sb : Nat) (s : Ini.Str) (B : Nat) (hB : w.heap.size ≤ B) : OwnFrom B (PI w pb pv sb s) := by
  rintro pre W W' row ⟨⟨st, V, h1, h2⟩, h3, h4, h5⟩ hg hr
  have hk := KeptAll.of_grown hg (fun r e => (hr r e).2) 0
  have hb : Below w.heap.size w W' := h3.below.grown hg h3.below.size (fun k e => Nat.le_trans hB (hr k e).1)
  exact ⟨⟨st, V, h1, h2.keptAll (hk.mono (Nat.zero_le _)) hg.size⟩, h3.keptAll hk hb hg.size, hk _ _ _ (Nat.zero_le _) h4, hk _ _ _ (Nat.zero_le _) h5⟩
theorem PIx.own (w : World) (s : Ini.Str) (B : Nat) (hB : w.heap.size ≤ B) (c : Code) : OwnFrom B (fun (pre : List (Ln s)) W => c = .ret ∧ PIx w s pre W) := by
  rintro pre W W' row ⟨hc, a, e, h1, h2⟩ hg hr
  have hk := KeptAll.of_grown hg (fun r e => (hr r e).2) 0
  exact ⟨hc, a, e, h1, h2.keptAll hk (h2.below.grown hg h2.below.size (fun k e => Nat.le_trans hB (hr k e).1))⟩
theorem KpS.putObj {sb : Nat} (W : World) (l : Nat) (o o' : Obj) (h : W.heap[l]? = some o) (hc : o.isCells = false) : KpS sb W (W.putObj l o') := fun cs hb =>
  KeptAll.of_grown (grownBy_putObj' W l o') (fun r e => by cases e; exact ⟨o, h, hc⟩) 0 _ _ _ (Nat.zero_le _) hb
theorem kb_below {a b : World} {S : Nat → Prop} (h : KeptBut' a b S) {B : Nat} (hS : ∀ g, S g → B ≤ g) (hB : B ≤ a.heap.size) : Below B a b :=
  ⟨h.os, h.tape, h.output, h.size, fun k hk => h.block k (by omega) (fun e => by have := hS k e; omega)⟩
theorem KeptBut'.keeps {a b : World} {S : Nat → Prop} (h : KeptBut' a b S) (hS : ∀ g, S g → ∃ t cs, Blk a g t cs) (B : Nat) : KeepsFrom B a b :=
  ⟨h.size, fun k o _ hk ho => by
    rw [h.block k (Array.getElem?_eq_some_iff.1 hk).1 (fun e => by
      obtain ⟨t, cs, hb⟩ := hS k e
      have hb' : a.heap[k]? = some (.cells cs t (0, 0)) := hb
      rw [hb'] at hk
      cases hk
      cases ho)]
    exact hk⟩
theorem fill_other {wx : World} {k : Nat} {v0 v1 v2 v3 v4 v5 a e : Value} {g : Nat} (hg : k + 3 ≤ g) : (fill wx k v0 v1 v2 v3 v4 v5 a e).heap[g]? = wx.heap[g]? := by
  unfold fill
  rw [Below.heap_setCell _ ⟨k + 1 + 1, 0, none⟩ _ _ (by simp; omega), Below.heap_setCell _ ⟨k + 1, 0, none⟩ _ _ (by simp; omega), Below.heap_setCell _ ⟨k, 5, none⟩ _ _ (by simp; omega), Below.heap_setCell _ ⟨k, 4, none⟩ _ _ (by simp; omega),
    Below.heap_setCell _ ⟨k, 3, none⟩ _ _ (by simp; omega), Below.heap_setCell _ ⟨k, 2, none⟩ _ _ (by simp; omega), Below.heap_setCell _ ⟨k, 1, none⟩ _ _ (by simp; omega), Below.heap_setCell _ ⟨k, 0, none⟩ _ _ (by simp; omega)]
theorem RBox.kb {w W W2 : World} {S : Nat → Prop} (h : RBox w W) (hk : KeptBut' W W2 S) (hS : ∀ g, S g → w.heap.size + 3 ≤ g) : RBox w W2 := by
  have hz := h.size
  have n : ∀ k, k < w.heap.size + 3 → ¬ S k := fun k hk2 e => by have := hS k e; omega
  exact ⟨h.below.trans (kb_below hk (fun g hg => by have := hS g hg; omega) (by omega)), Nat.le_trans h.size hk.size, hk.blk h.d (n _ (by omega)), hk.blk h.a (n _ (by omega)), hk.blk h.e (n _ (by omega))⟩
theorem OwnRow.weaken {α : Type} {L : Lay α} {w : World} {B B' : Nat} {E : TypeId} {v : Value} {l : List α} (h : OwnRow L w B E v l) (hB : B' ≤ B) : OwnRow L w B' E v l := by
  refine ⟨h.1, ?_⟩
  rcases h.2 with hn | ⟨g, cap, cur, rfl, hbg, rest⟩
  · exact .inl hn
  · exact .inr ⟨g, cap, cur, rfl, Nat.le_trans hB hbg, rest⟩
theorem PAt.weaken {B B' : Nat} {V : PV} {w : World} {pb : Nat} {s : Ini.Str} {st : Ini.St} (h : PAt B V w pb s st) (hB : B' ≤ B) : PAt B' V w pb s st :=
  ⟨Nat.le_trans hB h.le, Nat.le_trans hB h.base, h.blk, h.nodes.weaken hB, h.spans.weaken hB, h.notes.weaken hB, ⟨h.rows.len, h.rows.kind, fun j b => (h.rows.own j b).weaken hB, h.rows.apart⟩⟩
theorem fill_keeps (wx : World) (k : Nat) (v0 v1 v2 v3 v4 v5 a e : Value) : KeepsOthers wx (fill wx k v0 v1 v2 v3 v4 v5 a e) := by
  unfold fill
  exact (((((((KeepsOthers.setCell _ _ _).trans (KeepsOthers.setCell _ _ _)).trans (KeepsOthers.setCell _ _ _)).trans (KeepsOthers.setCell _ _ _)).trans (KeepsOthers.setCell _ _ _)).trans (KeepsOthers.setCell _ _ _)).trans (KeepsOthers.setCell _ _ _)).trans (KeepsOthers.setCell _ _ _)
/-- the round's own box. -/
def AX (w : World) (_pb pv _sb : Nat) (s : Ini.Str) (x : Ln s) (a' : Act) (W : World) : Prop :=
  ∃ Bx, w.heap.size + 3 ≤ Bx ∧ Blk W Bx 67 #[.int .i64 x.1.1, .int .i64 x.1.2] ∧ ∃ u0 u1 u5 u6 u7 u10 u11 u12 u13 u14 u15 u16 u17 u18 u19 u20 u21 u22 u23 u24 u25 u26 u27 u28 u29 u30 u31 u32 u33 u34 u35 u36 u37 u38 u39 u40 u41 u42 u43 u44 u45 u46 u47 u48 u49 u50 u51 u52 u53 u54 u55 u56 u57 u58 u59 u60 u61 u62 u63, a' = { tmps := #[u0, u1, .pointer (some ⟨w.heap.size, 0, none⟩), .pointer (some ⟨w.heap.size + 1, 0, none⟩), .pointer (some ⟨w.heap.size + 1 + 1, 0, none⟩), u5, u6, u7, .pointer (some ⟨pv, 0, none⟩), .pointer (some ⟨Bx, 0, none⟩), u10, u11, u12, u13, u14, u15, u16, u17, u18, u19, u20, u21, u22, u23, u24, u25, u26, u27, u28, u29, u30, u31, u32, u33, u34, u35, u36, u37, u38, u39, u40, u41, u42, u43, u44, u45, u46, u47, u48, u49, u50, u51, u52, u53, u54, u55, u56, u57, u58, u59, u60, u61, u62, u63], defers := [] }
set_option maxRecDepth 100000 in
set_option maxHeartbeats 4000000 in
theorem parse_lines (s : Ini.Str) (hs : s.length ≤ 65536) (w : World) (hT : Lib.Utf8Tabs 0 1 w) (hw : 2 ≤ w.heap.size) (hb : Ini.bad s = none) (hc : Ini.ctl s 0 = none) (R : Ini.Res Ini.St) (hR : Ini.runs s (Ini.lineL s) (Ini.start s.length) = R) :
    CallsIn Fence.wide 9 Tryd.prog 10 #[.string ⟨s.toArray⟩] w (PPost w s R) := by
  have HT := Lib.hid hT
  have HB : Hid (ckVal (Ini.bad s) = .tuple #[.int .i64 (-1), .int .i64 0]) := Lib.hid (by rw [hb]; rfl)
  have HC : Hid (offVal (Ini.ctl s 0) = .int .i64 (-1)) := Lib.hid (by rw [hc]; rfl)
  have HR := Lib.hid hR
  clear hT hb hc hR
  have hsI : (s.length : Int) ≤ 65536 := by omega
  refine callsIn_of_wp_marks Tryd.func10 rfl trivial ?_ rfl
  simp only [Tryd.ntmps10, List.size_toArray, List.length_cons, List.length_nil, Nat.reduceAdd, Nat.reduceSub, Array.replicate_succ, Array.replicate_zero, List.push_toArray, List.append_toArray, List.nil_append, List.cons_append]
  gi_wp2
  obtain ⟨w3, hw3⟩ : ∃ w3, ((w.alloc (.cells docCells 29)).alloc (.cells #[.int .i64 0] 3)).alloc (.cells #[.int .i64 0] 30) = w3 := ⟨_, rfl⟩
  have HBX : Hid (RBox w w3) := Lib.hid (by rw [← hw3]; exact RBox.make w)
  unfold docCells at hw3
  rw [hw3]
  clear hw3
  refine ⟨trivial, (callsIn_wide.2 (check_any s (by omega) _ (tabs_below HT.out HBX.out.below hw) (Nat.le_trans hw HBX.out.below.size) _ HB.out)).mono ?_⟩
  rintro e w4 ⟨rfl, hb4⟩
  have HBY : Hid (RBox w w4) := Lib.hid (HBX.out.later hb4)
  clear hb4
  gi_wp2
  refine ⟨trivial, (callsIn_wide.2 (control_any s (by omega) _ _ HC.out)).mono ?_⟩
  rintro e w5 ⟨rfl, rfl⟩
  gi_wp2
  obtain ⟨W5, hW5⟩ : ∃ W5, (((w4.alloc (.cells (pcells (V0 (w4.heap.size + 1 + 1) (w4.heap.size + 1 + 1 + 1)) s 0 0) 62)).alloc (.cells #[.pointer (some ⟨w4.heap.size, 0, none⟩)] 58)).alloc (.cells #[.int .i64 10, .string ⟨#[]⟩, .bool false, .slice none 0 0, .slice none 0 0] 49)).alloc
      (.cells #[.int .i64 0, .int .i64 (-1), .int .i64 0, .int .i64 0, .int .i64 s.length, .int .i64 0, .int .i64 0, .bool false, .bool false] 45) = W5 := ⟨_, rfl⟩
  have HST := Lib.hid (start_at (w.heap.size + 3) w4 HBY.out.size s W5 hW5)
  change _ ∧ CallsIn _ _ _ _ _ ((((w4.alloc (.cells (pcells (V0 (w4.heap.size + 1 + 1) (w4.heap.size + 1 + 1 + 1)) s 0 0) 62)).alloc (.cells #[.pointer (some ⟨w4.heap.size, 0, none⟩)] 58)).alloc (.cells #[.int .i64 10, .string ⟨#[]⟩, .bool false, .slice none 0 0, .slice none 0 0] 49)).alloc
      (.cells #[.int .i64 0, .int .i64 (-1), .int .i64 0, .int .i64 0, .int .i64 s.length, .int .i64 0, .int .i64 0, .bool false, .bool false] 45)) _
  rw [hW5]
  clear hW5
  refine ⟨trivial, (callsIn_wide.2 (lines_any s _)).mono ?_⟩
  rintro e W6 ⟨rfl, hW6⟩
  obtain ⟨sb, hsb⟩ : ∃ sb, W5.heap.size = sb := ⟨_, rfl⟩
  obtain ⟨pv, hpv⟩ : ∃ pv, w4.heap.size + 1 = pv := ⟨_, rfl⟩
  obtain ⟨pb, hpb⟩ : ∃ pb, w4.heap.size = pb := ⟨_, rfl⟩
  have HI0 : Hid (PI w pb pv sb s [] W6) := Lib.hid (by
    obtain ⟨h1, h2, h3, h4⟩ := HST.out
    have hb6 : Below W5.heap.size W5 W6 := by rw [hW6]; exact (Below.refl _ _).alloc (Nat.le_refl _) _
    refine ⟨⟨Ini.start s.length, V0 (w4.heap.size + 1 + 1) (w4.heap.size + 1 + 1 + 1), rfl, ?_⟩, (HBY.out.later h3).later hb6, ?_, ?_⟩
    · rw [← hpb]; exact h1.later hb6
    · rw [← hpv, ← hpb]; exact h2.below hb6 h2.lt
    · rw [← hsb, hW6]; exact Blk.new _ _ _)
  have HSZ : Hid (w.heap.size + 3 ≤ pb ∧ pb + 1 = pv ∧ pv < sb ∧ sb + 1 = W6.heap.size) := Lib.hid (by
    obtain ⟨h1, h2, h3, h4⟩ := HST.out
    have := HBY.out.size
    rw [hW6]
    simp
    omega)
  rw [hsb, hpv, hpb]
  obtain ⟨xs, hxs⟩ := lns s
  have HXS := Lib.hid hxs
  have hNX : xs.length ≤ s.length + 1 := by
    have h1 : (Ln.vals xs).length = xs.length := by simp [Ln.vals]
    have h2 := Ini.lineR_length s.length s 0 (Nat.le_refl _)
    have h3 : (Ln.vals xs).length = (Ini.lineR s 0).length := by rw [hxs]; rfl
    omega
  clear hxs hW6 HST hsb hpv hpb
  gi_wp2
  obtain ⟨z1, z2, z3, z4⟩ := HSZ.out
  refine wpIn_rangeFunc_ownH rfl (by omega) (gf := 26) (lb := #[.pointer (some ⟨sb, 0, none⟩)]) rfl trivial (enters_of Tryd.func26 (by kernel_rfl) rfl)
    (lines_stops s (by omega) 8 (by omega) sb xs HXS.out W6 HI0.out.2.2.2) KpS.trans (fun W l o o' _ ho hc _ => KpS.putObj W l o o' ho hc) (Below.refl _ _) (fun _ => rfl)
    (PI w pb pv sb s) (fun c pre W => c = .ret ∧ PIx w s pre W) (PI.own w pb pv sb s _ (by omega)) (fun c => PIx.own w s _ (by omega) c) HI0.out
    (AX w pb pv sb s) ?hax ?assign ?body ?done ?stop
  case hax =>
    rintro x a' _ W W' row ⟨Bx, h1, h2, h3⟩ hg hr
    exact ⟨Bx, h1, KeptAll.of_grown hg (fun r e => (hr r e).2) 0 _ _ _ (Nat.zero_le _) h2, h3⟩
  case assign =>
    rintro l pre x W K hI hK
    gi_wp2
    refine hK _ _ ((KeepsOthers.alloc _ _).from _) (fun cs h => h.alloc _) ?_ ?_
    · obtain ⟨⟨st, V, h1, h2⟩, h3, h4, h5⟩ := hI
      exact ⟨⟨st, V, h1, h2.later ((Below.refl _ _).alloc (Nat.le_refl _) _)⟩, h3.later ((Below.refl _ _).alloc (Nat.le_refl _) _), h4.alloc _, h5.alloc _⟩
    · exact ⟨W.heap.size, hI.2.1.size, Blk.new _ _ _, _, _, _, _, _, _, _, _, _, _, _, _, _, _, _, _, _, _, _, _, _, _, _, _, _, _, _, _, _, _, _, _, _, _, _, _, _, _, _, _, _, _, _, _, _, _, _, _, _, _, _, _, _, _, _, _, _, _, _, rfl⟩
  case body =>
    rintro l pre x a' W hl ⟨r, hr⟩ ⟨⟨st, V, h1, h2⟩, h3, h4, h5⟩ ⟨Bx, hBx, bX, u0, u1, u5, u6, u7, u10, u11, u12, u13, u14, u15, u16, u17, u18, u19, u20, u21, u22, u23, u24, u25, u26, u27, u28, u29, u30, u31, u32, u33, u34, u35, u36, u37, u38, u39, u40, u41, u42, u43, u44, u45, u46, u47, u48, u49, u50, u51, u52, u53, u54, u55, u56, u57, u58, u59, u60, u61, u62, u63, rfl⟩ hlt
    obtain ⟨⟨x1, x2⟩, hx1, hx2⟩ := x
    have cpv : W.cell? ⟨pv, 0, none⟩ = some (.pointer (some ⟨pb, 0, none⟩)) := h4.cell 0
    have cx0 : W.cell? ⟨Bx, 0, none⟩ = some (.int .i64 x1) := bX.cell 0
    have cx1 : W.cell? ⟨Bx, 1, none⟩ = some (.int .i64 x2) := bX.cell 1
    have hnl : st.notes.length < 1073741823 := by
      have k1 := Ini.runs_notes s _ _ _ h1
      have k2 : (Ln.vals pre).length = pre.length := by simp [Ln.vals]
      have k3 : (Ini.start s.length).notes.length = 0 := rfl
      omega
    have HF := Lib.hid ((Fit.start s.length).runs h1)
    have HRUN : Hid (Ini.runs s (Ln.vals (pre ++ [⟨(x1, x2), hx1, hx2⟩])) (Ini.start s.length) = Ini.line st (seg s x1 x2) x1) := Lib.hid (by
      have e1 : Ln.vals (pre ++ [⟨(x1, x2), hx1, hx2⟩]) = Ln.vals pre ++ [(x1, x2)] := by simp [Ln.vals]
      rw [e1, Ini.runs_snoc, h1]
      rfl)
    have H2 := Lib.hid h2
    have H3 := Lib.hid h3
    have H4 := Lib.hid h4
    have H5 := Lib.hid h5
    have HNL := Lib.hid hnl
    have HX1 : x1 ≤ x2 := hx1
    have HX2 : x2 ≤ s.length := hx2
    clear h1 h2 h3 h4 h5 bX hnl hr
    cases hL : Ini.line st (seg s x1 x2) x1 with
    | ok st' =>
      have HLN := Lib.hid hL
      clear hL
      gi_wp2
      refine ⟨trivial, (CallsIn.inRound l (callsIn_wide.2 (one_any (w.heap.size + 3) pb x1 x2 V s st HX1 HX2 (by omega) W H2.out HF.out HNL.out _ HLN.out))).mono ?_⟩
      rintro e W2 ⟨rfl, V', hp', hown, hkb⟩
      have HRES : Hid (KeepsFrom W6.heap.size W W2 ∧ KpS sb W W2 ∧ PI w pb pv sb s (pre ++ [⟨(x1, x2), hx1, hx2⟩]) W2) := Lib.hid (by
        have n9 : ∀ {g cs}, Blk W g 9 cs → ¬ V.own pb g := fun hb hg => by rcases H2.out.own_ty hg hb with h | h | h | h | h <;> cases h
        have n58 : ∀ {g cs}, Blk W g 58 cs → ¬ V.own pb g := fun hb hg => by rcases H2.out.own_ty hg hb with h | h | h | h | h <;> cases h
        refine ⟨hkb.keeps (fun g hg => H2.out.own_cells hg) _, fun cs h => hkb.blk h (n9 h), ⟨st', V', by rw [HRUN.out, HLN.out], hp'⟩, H3.out.kb hkb (fun g hg => (H2.out.own_lt hg).1), hkb.blk H4.out (n58 H4.out), hkb.blk H5.out (n9 H5.out)⟩)
      clear hp' hown hkb
      gi_wp2
      exact HRES.out
    | err a c =>
      have HLN := Lib.hid hL
      clear hL
      gi_wp2
      refine ⟨trivial, (CallsIn.inRound l (callsIn_wide.2 (one_any (w.heap.size + 3) pb x1 x2 V s st HX1 HX2 (by omega) W H2.out HF.out HNL.out _ HLN.out))).mono ?_⟩
      rintro e W2 ⟨rfl, hx⟩
      have hR2 := H3.out.kb hx.1 (fun g hg => by have hg : g = pb := hg; omega)
      have c9 : W2.cell? ⟨pb, 9, none⟩ = some (.int .i64 a) := hx.2.1
      have c10 : W2.cell? ⟨pb, 10, none⟩ = some (.int .i64 c) := hx.2.2.1
      have cpv2 : W2.cell? ⟨pv, 0, none⟩ = some (.pointer (some ⟨pb, 0, none⟩)) := (hx.1.blk H4.out (fun e => by have e : pv = pb := e; omega)).cell 0
      obtain ⟨d0, d1, d2, d3, d4, d5, a0, e0, df, af, ef⟩ := hR2.facts
      have HR2 := Lib.hid hR2
      have HKF : Hid (KeepsFrom W6.heap.size W W2) := Lib.hid (hx.1.keeps (fun g hg => by have hg : g = pb := hg; subst hg; exact ⟨_, _, H2.out.blk⟩) _)
      have HPB := Lib.hid hx.2.2.2
      have HPV : Hid (Blk W2 pv 58 #[.pointer (some ⟨pb, 0, none⟩)]) := Lib.hid (hx.1.blk H4.out (fun e => by have e : pv = pb := e; omega))
      clear hx hR2
      -- ERR (
      gi_wp2
      obtain ⟨csP, hPB, _⟩ := HPB.out
      have f9 : ∀ b9 b10 b11, (wst W2.drew w.heap.size (.int .i64 a) (.int .i64 c) b9 b10 b11).cell? ⟨pb, 9, none⟩ = some (.int .i64 a) := fun b9 b10 b11 => by
        rw [(wst_far (W := W2.drew) (show Blk W2.drew pb 62 csP from hPB) (by omega) b9 b10 b11).cell 9, ← hPB.cell 9]; exact c9
      have f10 : ∀ b9 b10 b11, (wst W2.drew w.heap.size (.int .i64 a) (.int .i64 c) b9 b10 b11).cell? ⟨pb, 10, none⟩ = some (.int .i64 c) := fun b9 b10 b11 => by
        rw [(wst_far (W := W2.drew) (show Blk W2.drew pb 62 csP from hPB) (by omega) b9 b10 b11).cell 10, ← hPB.cell 10]; exact c10
      have fpv : ∀ b9 b10 b11, (wst W2.drew w.heap.size (.int .i64 a) (.int .i64 c) b9 b10 b11).cell? ⟨pv, 0, none⟩ = some (.pointer (some ⟨pb, 0, none⟩)) := fun b9 b10 b11 =>
        (wst_far (W := W2.drew) (show Blk W2.drew pv 58 _ from HPV.out) (by omega) b9 b10 b11).cell 0
      clear cpv cx0 cx1 HI0 HSZ HXS hNX HT HB HC HR HBX HBY hsI z1 z2 z3 z4 hlt hl hBx H2 H3 H4 H5 HNL HF hPB
      refine wpIn_region_any (by kernel_rfl) ?_
      refine wpAnyIn_sets (fun m listed a' w' => ∃ b0 b1 b2 b3 b4 b5 b6 b7 b8 b9 b10 b11 : Bool, listed = #[b0, b1, b2, b3, b4, b5, b6, b7, b8, b9, b10, b11] ∧ m = cond b0 0 1 + cond b1 0 1 + cond b2 0 1 + cond b3 0 1 + cond b4 0 1 + cond b5 0 1 + cond b6 0 1 + cond b7 0 1 + cond b8 0 1 + cond b9 0 1 + cond b10 0 1 + cond b11 0 1 ∧ (b10 = true → b9 = true) ∧ (b11 = true → b10 = true) ∧ a' = { tmps := #[u0, u1, .pointer (some ⟨w.heap.size, 0, none⟩), .pointer (some ⟨w.heap.size + 1, 0, none⟩), .pointer (some ⟨w.heap.size + 1 + 1, 0, none⟩), u5, u6, u7, .pointer (some ⟨pv, 0, none⟩), .pointer (some ⟨Bx, 0, none⟩), u10, u11, u12, u13, u14, u15, u16, u17, u18, u19, u20, u21, u22, u23, u24, u25, u26, u27, u28, u29, u30, u31, u32, u33, u34, u35, u36, u37, u38, u39, u40, u41, u42, u43, u44, u45, u46, .pointer (some ⟨pb, 0, none⟩), .agg #[.int .i64 x1, .int .i64 x2], .bool false, .bool true, cond b0 (.agg #[.int .i64 0, .string ⟨#[]⟩, .slice none 0 0, .int .i64 0, .slice none 0 0, .slice none 0 0]) u51, cond b1 (.pointer (some ⟨pb, 0, none⟩)) u52, cond b2 (.pointer (some ⟨pb, 0, none⟩)) u53, cond b3 (.pointer (some ⟨pb, 9, none⟩)) u54, cond b4 (.int .i64 a) u55, cond b5 (.pointer (some ⟨pb, 0, none⟩)) u56, cond b6 (.pointer (some ⟨pb, 0, none⟩)) u57, cond b7 (.pointer (some ⟨pb, 10, none⟩)) u58, cond b8 (.int .i64 c) u59, u60, u61, u62, u63], defers := [] } ∧ w' = wst W2.drew w.heap.size (.int .i64 a) (.int .i64 c) b9 b10 b11) ?step ?fin _ _ _ _ ?start
      case start => exact ⟨false, false, false, false, false, false, false, false, false, false, false, false, rfl, rfl, by simp, by simp, rfl, rfl⟩
      case step =>
        rintro m listed a' w' i ⟨b0, b1, b2, b3, b4, b5, b6, b7, b8, b9, b10, b11, rfl, rfl, hh1, hh2, rfl, rfl⟩ hi
        rw [mem_ready] at hi
        obtain ⟨hi0, o, ho, hd⟩ := hi
        have hi12 : i < 12 := (Array.getElem?_eq_some_iff.1 ho).1
        obtain rfl | rfl | rfl | rfl | rfl | rfl | rfl | rfl | rfl | rfl | rfl | rfl : i = 0 ∨ i = 1 ∨ i = 2 ∨ i = 3 ∨ i = 4 ∨ i = 5 ∨ i = 6 ∨ i = 7 ∨ i = 8 ∨ i = 9 ∨ i = 10 ∨ i = 11 := by omega
        · -- 0
          obtain rfl : b0 = false := by simpa using hi0
          obtain rfl := Option.some.inj (show some _ = some o from ho)
          refine ⟨_, (by simp only [cond_false, cond_true] <;> omega), op_value (.agg #[.int .i64 0, .string ⟨#[]⟩, .slice none 0 0, .int .i64 0, .slice none 0 0, .slice none 0 0]) rfl rfl (by intro c h; cases h) rfl ?_ ⟨true, _, _, _, _, _, _, _, _, _, _, _, rfl, rfl, hh1, hh2, rfl, rfl⟩⟩
          simp [execOp, go_sem]
        · -- 1
          obtain rfl : b1 = false := by simpa using hi0
          obtain rfl := Option.some.inj (show some _ = some o from ho)
          refine ⟨_, (by simp only [cond_false, cond_true] <;> omega), op_value (.pointer (some ⟨pb, 0, none⟩)) rfl rfl (by intro c h; cases h) rfl ?_ ⟨_, true, _, _, _, _, _, _, _, _, _, _, rfl, rfl, hh1, hh2, rfl, rfl⟩⟩
          simp [execOp, go_sem, fpv]
        · -- 2
          obtain rfl : b2 = false := by simpa using hi0
          obtain rfl := Option.some.inj (show some _ = some o from ho)
          obtain rfl : b1 = true := by simpa using hd ⟨1, .data⟩ (by simp) rfl
          refine ⟨_, (by simp only [cond_false, cond_true] <;> omega), op_value (.pointer (some ⟨pb, 0, none⟩)) rfl rfl (by intro c h; cases h) rfl ?_ ⟨_, _, true, _, _, _, _, _, _, _, _, _, rfl, rfl, hh1, hh2, rfl, rfl⟩⟩
          simp [execOp, go_sem]
        · -- 3
          obtain rfl : b3 = false := by simpa using hi0
          obtain rfl := Option.some.inj (show some _ = some o from ho)
          obtain rfl : b2 = true := by simpa using hd ⟨2, .data⟩ (by simp) rfl
          refine ⟨_, (by simp only [cond_false, cond_true] <;> omega), op_value (.pointer (some ⟨pb, 9, none⟩)) rfl rfl (by intro c h; cases h) rfl ?_ ⟨_, _, _, true, _, _, _, _, _, _, _, _, rfl, rfl, hh1, hh2, rfl, rfl⟩⟩
          simp [execOp, go_sem]
        · -- 4
          obtain rfl : b4 = false := by simpa using hi0
          obtain rfl := Option.some.inj (show some _ = some o from ho)
          obtain rfl : b3 = true := by simpa using hd ⟨3, .data⟩ (by simp) rfl
          refine ⟨_, (by simp only [cond_false, cond_true] <;> omega), op_value (.int .i64 a) rfl rfl (by intro c h; cases h) rfl ?_ ⟨_, _, _, _, true, _, _, _, _, _, _, _, rfl, rfl, hh1, hh2, rfl, rfl⟩⟩
          simp [execOp, go_sem, f9]
        · -- 5
          obtain rfl : b5 = false := by simpa using hi0
          obtain rfl := Option.some.inj (show some _ = some o from ho)
          refine ⟨_, (by simp only [cond_false, cond_true] <;> omega), op_value (.pointer (some ⟨pb, 0, none⟩)) rfl rfl (by intro c h; cases h) rfl ?_ ⟨_, _, _, _, _, true, _, _, _, _, _, _, rfl, rfl, hh1, hh2, rfl, rfl⟩⟩
          simp [execOp, go_sem, fpv]
        · -- 6
          obtain rfl : b6 = false := by simpa using hi0
          obtain rfl := Option.some.inj (show some _ = some o from ho)
          obtain rfl : b5 = true := by simpa using hd ⟨5, .data⟩ (by simp) rfl
          refine ⟨_, (by simp only [cond_false, cond_true] <;> omega), op_value (.pointer (some ⟨pb, 0, none⟩)) rfl rfl (by intro c h; cases h) rfl ?_ ⟨_, _, _, _, _, _, true, _, _, _, _, _, rfl, rfl, hh1, hh2, rfl, rfl⟩⟩
          simp [execOp, go_sem]
        · -- 7
          obtain rfl : b7 = false := by simpa using hi0
          obtain rfl := Option.some.inj (show some _ = some o from ho)
          obtain rfl : b6 = true := by simpa using hd ⟨6, .data⟩ (by simp) rfl
          refine ⟨_, (by simp only [cond_false, cond_true] <;> omega), op_value (.pointer (some ⟨pb, 10, none⟩)) rfl rfl (by intro c h; cases h) rfl ?_ ⟨_, _, _, _, _, _, _, true, _, _, _, _, rfl, rfl, hh1, hh2, rfl, rfl⟩⟩
          simp [execOp, go_sem]
        · -- 8
          obtain rfl : b8 = false := by simpa using hi0
          obtain rfl := Option.some.inj (show some _ = some o from ho)
          obtain rfl : b7 = true := by simpa using hd ⟨7, .data⟩ (by simp) rfl
          refine ⟨_, (by simp only [cond_false, cond_true] <;> omega), op_value (.int .i64 c) rfl rfl (by intro c h; cases h) rfl ?_ ⟨_, _, _, _, _, _, _, _, true, _, _, _, rfl, rfl, hh1, hh2, rfl, rfl⟩⟩
          simp [execOp, go_sem, f10]
        · -- 9
          obtain rfl : b9 = false := by simpa using hi0
          obtain rfl := Option.some.inj (show some _ = some o from ho)
          obtain rfl : b0 = true := by simpa using hd ⟨0, .data⟩ (by simp) rfl
          obtain rfl : b10 = false := by cases b10 with | false => rfl | true => exact (by simpa using hh1 rfl)
          obtain rfl : b11 = false := by cases b11 with | false => rfl | true => exact (by simpa using hh2 rfl)
          refine ⟨_, (by simp only [cond_false, cond_true] <;> omega), op_skip (w' := wst W2.drew w.heap.size (.int .i64 a) (.int .i64 c) true false false) rfl rfl (by intro c h; cases h) rfl ?_ ⟨_, _, _, _, _, _, _, _, _, true, _, _, rfl, rfl, by simp, by simp, rfl, rfl⟩⟩
          simp [execOp, go_sem, wst, d0, d1, d2, d3, d4, d5, df]
        · -- 10
          obtain rfl : b10 = false := by simpa using hi0
          obtain rfl := Option.some.inj (show some _ = some o from ho)
          obtain rfl : b4 = true := by simpa using hd ⟨4, .data⟩ (by simp) rfl
          obtain rfl : b9 = true := by simpa using hd ⟨9, .chain⟩ (by simp) rfl
          obtain rfl : b11 = false := by cases b11 with | false => rfl | true => exact (by simpa using hh2 rfl)
          refine ⟨_, (by simp only [cond_false, cond_true] <;> omega), op_skip (w' := wst W2.drew w.heap.size (.int .i64 a) (.int .i64 c) true true false) rfl rfl (by intro c h; cases h) rfl ?_ ⟨_, _, _, _, _, _, _, _, _, _, true, _, rfl, rfl, by simp, by simp, rfl, rfl⟩⟩
          simp [execOp, go_sem, wst, a0, af]
        · -- 11
          obtain rfl : b11 = false := by simpa using hi0
          obtain rfl := Option.some.inj (show some _ = some o from ho)
          obtain rfl : b8 = true := by simpa using hd ⟨8, .data⟩ (by simp) rfl
          obtain rfl : b10 = true := by simpa using hd ⟨10, .chain⟩ (by simp) rfl
          obtain rfl : b9 = true := hh1 rfl
          refine ⟨_, (by simp only [cond_false, cond_true] <;> omega), op_skip (w' := wst W2.drew w.heap.size (.int .i64 a) (.int .i64 c) true true true) rfl rfl (by intro c h; cases h) rfl ?_ ⟨_, _, _, _, _, _, _, _, _, _, _, true, rfl, rfl, by simp, by simp, rfl, rfl⟩⟩
          simp [execOp, go_sem, wst, e0, ef]
      case fin =>
        rintro m listed a' w' ⟨b0, b1, b2, b3, b4, b5, b6, b7, b8, b9, b10, b11, rfl, rfl, hh1, hh2, rfl, rfl⟩ hr
        have nm := fun i => mt mem_ready.2 (List.eq_nil_iff_forall_not_mem.1 hr i)
        obtain rfl : b0 = true := by cases b0 with | true => rfl | false => exact (nm 0 ⟨rfl, _, rfl, by simp [Region.binds]⟩).elim
        obtain rfl : b1 = true := by cases b1 with | true => rfl | false => exact (nm 1 ⟨rfl, _, rfl, by simp [Region.binds]⟩).elim
        obtain rfl : b5 = true := by cases b5 with | true => rfl | false => exact (nm 5 ⟨rfl, _, rfl, by simp [Region.binds]⟩).elim
        obtain rfl : b2 = true := by cases b2 with | true => rfl | false => exact (nm 2 ⟨rfl, _, rfl, by simp [Region.binds]⟩).elim
        obtain rfl : b6 = true := by cases b6 with | true => rfl | false => exact (nm 6 ⟨rfl, _, rfl, by simp [Region.binds]⟩).elim
        obtain rfl : b3 = true := by cases b3 with | true => rfl | false => exact (nm 3 ⟨rfl, _, rfl, by simp [Region.binds]⟩).elim
        obtain rfl : b7 = true := by cases b7 with | true => rfl | false => exact (nm 7 ⟨rfl, _, rfl, by simp [Region.binds]⟩).elim
        obtain rfl : b4 = true := by cases b4 with | true => rfl | false => exact (nm 4 ⟨rfl, _, rfl, by simp [Region.binds]⟩).elim
        obtain rfl : b8 = true := by cases b8 with | true => rfl | false => exact (nm 8 ⟨rfl, _, rfl, by simp [Region.binds]⟩).elim
        obtain rfl : b9 = true := by cases b9 with | true => rfl | false => exact (nm 9 ⟨rfl, _, rfl, by simp [Region.binds]⟩).elim
        obtain rfl : b10 = true := by cases b10 with | true => rfl | false => exact (nm 10 ⟨rfl, _, rfl, by simp [Region.binds]⟩).elim
        obtain rfl : b11 = true := by cases b11 with | true => rfl | false => exact (nm 11 ⟨rfl, _, rfl, by simp [Region.binds]⟩).elim
        clear nm hr hh1 hh2
        have hfil : wst W2.drew w.heap.size (.int .i64 a) (.int .i64 c) true true true = fill W2.drew w.heap.size (.int .i64 0) (.string ⟨#[]⟩) (.slice none 0 0) (.int .i64 0) (.slice none 0 0) (.slice none 0 0) (.int .i64 a) (.int .i64 c) := rfl
        rw [hfil]
        have HFIN : Hid (KeepsFrom W6.heap.size W (fill W2.drew w.heap.size (.int .i64 0) (.string ⟨#[]⟩) (.slice none 0 0) (.int .i64 0) (.slice none 0 0) (.slice none 0 0) (.int .i64 a) (.int .i64 c)) ∧ PIx w s (pre ++ [⟨(x1, x2), hx1, hx2⟩]) (fill W2.drew w.heap.size (.int .i64 0) (.string ⟨#[]⟩) (.slice none 0 0) (.int .i64 0) (.slice none 0 0) (.slice none 0 0) (.int .i64 a) (.int .i64 c))) := Lib.hid
          ⟨HKF.out.trans (((KeepsOthers.drew W2).trans (fill_keeps _ _ _ _ _ _ _ _ _ _)).from _), a, c, by rw [HRUN.out, HLN.out], (HR2.out.later (Below.refl _ _).drew).fill _ _ _ _ _ _ _ _⟩
        clear f9 f10 fpv c9 c10 cpv2 d0 d1 d2 d3 d4 d5 a0 e0 df af ef hfil
        obtain ⟨w9, hw9⟩ : ∃ w9, fill W2.drew w.heap.size (.int .i64 0) (.string ⟨#[]⟩) (.slice none 0 0) (.int .i64 0) (.slice none 0 0) (.slice none 0 0) (.int .i64 a) (.int .i64 c) = w9 := ⟨_, rfl⟩
        rw [hw9] at HFIN ⊢
        clear hw9
        gi_wp2
        exact ⟨HFIN.out.1, rfl, HFIN.out.2⟩
      -- ERR )
  case done =>
    rintro D ys W hD hys ⟨⟨st, V, h1, h2⟩, h3, h4, h5⟩ hK
    obtain ⟨A1, c1, e1, _⟩ := h2.nodes.form
    obtain ⟨A2, c2, e2, _⟩ := h2.spans.form
    obtain ⟨A3, c3, e3, _⟩ := h2.notes.form
    have hRR : R = .ok st := by rw [← HR.out, ← HXS.out, ← hys]; exact h1
    have cpv : W.cell? ⟨pv, 0, none⟩ = some (.pointer (some ⟨pb, 0, none⟩)) := h4.cell 0
    have p3 : W.cell? ⟨pb, 3, none⟩ = some (.int .i64 3) := h2.blk.cell 3
    have p4 : W.cell? ⟨pb, 4, none⟩ = some (.string ⟨s.toArray⟩) := h2.blk.cell 4
    have p5 : W.cell? ⟨pb, 5, none⟩ = some (.slice A1 V.vs.length c1) := by rw [h2.blk.cell 5]; show some V.nv = _; rw [e1]
    have p6 : W.cell? ⟨pb, 6, none⟩ = some (.int .i64 0) := h2.blk.cell 6
    have p7 : W.cell? ⟨pb, 7, none⟩ = some (.slice A2 st.spans.length c2) := by rw [h2.blk.cell 7]; show some V.sv = _; rw [e2]
    have p8 : W.cell? ⟨pb, 8, none⟩ = some (.slice A3 st.notes.length c3) := by rw [h2.blk.cell 8]; show some V.tv = _; rw [e3]
    obtain ⟨d0, d1, d2, d3, d4, d5, a0, e0, df, af, ef⟩ := h3.facts
    have hF := h3.fill (.int .i64 3) (.string ⟨s.toArray⟩) (.slice A1 V.vs.length c1) (.int .i64 0) (.slice A2 st.spans.length c2) (.slice A3 st.notes.length c3) (.int .i64 0) (.int .i64 0)
    have hK2 : (fill W w.heap.size (.int .i64 3) (.string ⟨s.toArray⟩) (.slice A1 V.vs.length c1) (.int .i64 0) (.slice A2 st.spans.length c2) (.slice A3 st.notes.length c3) (.int .i64 0) (.int .i64 0)).heap[D]? = some (.deferred (some [])) := (fill_other (by omega)).trans hK
    have hP2 : PAt (w.heap.size + 3) V (fill W w.heap.size (.int .i64 3) (.string ⟨s.toArray⟩) (.slice A1 V.vs.length c1) (.int .i64 0) (.slice A2 st.spans.length c2) (.slice A3 st.notes.length c3) (.int .i64 0) (.int .i64 0)) pb s st :=
      h2.keptAll (fun g t cs hg hb => fill_far hb hg) (by rw [fill_size]; exact Nat.le_refl _)
    have HFF := Lib.hid hF
    have HK2 := Lib.hid hK2
    have HP2 := Lib.hid hP2
    have HRR := Lib.hid hRR
    have HE1 := Lib.hid e1
    have HE2 := Lib.hid e2
    have HE3 := Lib.hid e3
    clear h1 h2 h3 h4 h5 hK hF hK2 hP2 hRR hys e1 e2 e3 HI0 HSZ HT HB HC HBX HBY
    gi_wp2
    have hk := KeptAll.of_grown (grownBy_putObj' (fill W w.heap.size (.int .i64 3) (.string ⟨s.toArray⟩) (.slice A1 V.vs.length c1) (.int .i64 0) (.slice A2 st.spans.length c2) (.slice A3 st.notes.length c3) (.int .i64 0) (.int .i64 0)) D (.deferred none)) (fun r e => by cases e; exact ⟨_, HK2.out, rfl⟩) 0
    have hbw : Below w.heap.size w ((fill W w.heap.size (.int .i64 3) (.string ⟨s.toArray⟩) (.slice A1 V.vs.length c1) (.int .i64 0) (.slice A2 st.spans.length c2) (.slice A3 st.notes.length c3) (.int .i64 0) (.int .i64 0)).putObj D (.deferred none)) :=
      HFF.out.below.grown (grownBy_putObj' _ D _) HFF.out.below.size (fun k e => by cases e; omega)
    refine ⟨by simp, .inl ⟨_, _, rfl, run_takeDeferred HK2.out, ?_⟩⟩
    refine ⟨_, (HFF.out.keptAll hk hbw).run _ rfl rfl rfl, ?_⟩
    rw [HRR.out]
    refine ⟨hbw, V, pb, by rw [HE1.out, HE2.out, HE3.out], (HP2.out.keptAll (hk.mono (Nat.zero_le _)) (grownBy_putObj' _ D _).size).weaken (by omega)⟩
  case stop =>
    rintro D c pre W hD hSp ⟨rfl, a, e, h1, h2⟩ hK
    have hRR : R = .err a e := by
      rw [← HR.out, ← HXS.out]
      refine Ini.runs_err s _ _ _ _ _ h1 ?_
      obtain ⟨t, rfl⟩ := hSp
      exact ⟨Ln.vals t, by simp [Ln.vals]⟩
    gi_wp2
    have hk := KeptAll.of_grown (grownBy_putObj' W D (.deferred none)) (fun r e => by cases e; exact ⟨_, hK, rfl⟩) 0
    have hbw : Below w.heap.size w (W.putObj D (.deferred none)) := h2.below.grown (grownBy_putObj' _ D _) h2.below.size (fun k e => by cases e; omega)
    refine ⟨by simp, .inl ⟨_, _, rfl, run_takeDeferred hK, ?_⟩⟩
    refine ⟨_, (h2.keptAll hk hbw).run _ rfl rfl rfl, ?_⟩
    rw [hRR]
    exact ⟨hbw, rfl⟩
end Go.Proofs.YtegdemnfjmaicaaDoor

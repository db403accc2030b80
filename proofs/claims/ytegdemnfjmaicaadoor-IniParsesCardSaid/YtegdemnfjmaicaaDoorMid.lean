/- The parser's memory while an entry is being added: what each step keeps. The parser's memory while an entry is being added: the rows of numbers. -/
import Derived.Test.YtegdemnfjmaicaaDoorMem
namespace Go.Proofs.YtegdemnfjmaicaaDoor
open Go.RowKit
/-- what a failure leaves of the world. -/
def FPost (w w' : World) (pb a e : Nat) : Prop := KeptBut' w w' (· = pb) ∧ w'.cell? ⟨pb, 9, none⟩ = some (.int .i64 a) ∧ w'.cell? ⟨pb, 10, none⟩ = some (.int .i64 e) ∧ ∃ cs, Blk w' pb 62 cs ∧ cs.size = 11
section
variable {w w' w1 : World} {pb a e : Nat} {S : Nat → Prop} {B : Nat}
theorem KeptBut'.refl (w : World) (S : Nat → Prop) : KeptBut' w w S := ⟨rfl, rfl, rfl, Nat.le_refl _, fun _ _ _ => rfl⟩
theorem KeptBut'.later {a b c : World} (h : KeptBut' a b S) (hb : Below b.heap.size b c) : KeptBut' a c S :=
  ⟨hb.os.trans h.os, hb.tape.trans h.tape, hb.output.trans h.output, Nat.le_trans h.size hb.size, fun k hk hs => (hb.block k (Nat.lt_of_lt_of_le hk h.size)).trans (h.block k hk hs)⟩
theorem KeptBut'.of_below {a b : World} (hb : Below a.heap.size a b) (S : Nat → Prop) : KeptBut' a b S := (KeptBut'.refl a S).later hb
theorem KeptBut'.setCell {a b : World} (h : KeptBut' a b S) {p : Addr} (hp : S p.block ∨ a.heap.size ≤ p.block) (u : Value) : KeptBut' a (b.setCell p u) S :=
  ⟨h.os, h.tape, h.output, by simpa [World.setCell] using h.size, fun k hk hs => (Below.heap_setCell b p u k (fun e => by subst e; rcases hp with hp | hp; exact hs hp; omega)).trans (h.block k hk hs)⟩
theorem KeptBut'.drew {a b : World} (h : KeptBut' a b S) : KeptBut' a b.drew S := ⟨h.os, h.tape, h.output, h.size, h.block⟩
theorem KeptBut'.drewN {a b : World} (h : KeptBut' a b S) (n : Nat) : KeptBut' a (b.drewN n) S := ⟨h.os, h.tape, h.output, h.size, h.block⟩
theorem KeptBut'.alloc {a b : World} (h : KeptBut' a b S) (o : Obj) : KeptBut' a (b.alloc o) S := h.later ((Below.refl _ _).alloc (Nat.le_refl _) _)
theorem KeptBut'.grown {a b c : World} (h : KeptBut' a b S) {row : Option Nat} (hg : b.grownBy c row) (hr : ∀ g, row = some g → S g ∨ a.heap.size ≤ g) : KeptBut' a c S :=
  ⟨hg.os.trans h.os, hg.tape.trans h.tape, hg.output.trans h.output, Nat.le_trans h.size hg.size, fun k hk hs => by
    rw [hg.block k (Nat.lt_of_lt_of_le hk h.size) (fun e => by rcases hr k e.symm with h1 | h1; exact hs h1; omega)]
    exact h.block k hk hs⟩
theorem KeptBut'.trans {a b c : World} {T : Nat → Prop} (h : KeptBut' a b S) (k : KeptBut' b c T) (hT : ∀ g, T g → S g ∨ a.heap.size ≤ g) : KeptBut' a c S :=
  ⟨k.os.trans h.os, k.tape.trans h.tape, k.output.trans h.output, Nat.le_trans h.size k.size, fun i hi hs => by
    rw [k.block i (Nat.lt_of_lt_of_le hi h.size) (fun e => by rcases hT i e with h1 | h1; exact hs h1; omega)]
    exact h.block i hi hs⟩
theorem KeptBut'.mono {a b : World} {T : Nat → Prop} (h : KeptBut' a b S) (hT : ∀ g, S g → T g) : KeptBut' a b T := ⟨h.os, h.tape, h.output, h.size, fun k hk hs => h.block k hk (fun e => hs (hT k e))⟩
theorem KeptBut'.blk {a b : World} (h : KeptBut' a b S) {g : Nat} {t : TypeId} {cs : Array Value} (hb : Blk a g t cs) (hs : ¬ S g) : Blk b g t cs := (h.block g hb.lt hs).trans hb
theorem FailAt.kept {s : Ini.Str} (h : FailAt w w' pb a e) (hp : ParAt w pb s) : FPost w w' pb a e := by
  obtain ⟨cs, h1, h2, _⟩ := hp
  unfold FailAt at h
  subst h
  have b0 : Blk w pb 62 cs := h1
  have b1 := b0.set_ 9 (.int .i64 a)
  have b2 := b1.set_ 10 (.int .i64 e)
  refine ⟨((KeptBut'.refl w (· = pb)).setCell (p := ⟨pb, 9, none⟩) (.inl rfl) _).setCell (p := ⟨pb, 10, none⟩) (.inl rfl) _, ?_, ?_, _, b2, by simpa using h2⟩
  · rw [b2.cell 9, Array.getElem?_setIfInBounds_ne (by omega), Array.getElem?_setIfInBounds_self_of_lt (by omega)]
  · rw [b2.cell 10, Array.getElem?_setIfInBounds_self_of_lt (by simp; omega)]
theorem FPost.from (h : FPost w1 w' pb a e) (hb : Below w.heap.size w w1) : FPost w w' pb a e :=
  ⟨(KeptBut'.of_below hb (· = pb)).trans h.1 (fun _g hg => .inl hg), h.2⟩
theorem FailPost.kept {s : Ini.Str} (h : FailPost w w' pb a e) (hp : ParAt w pb s) : FPost w w' pb a e := by
  obtain ⟨w1, h1, h2⟩ := h
  exact (h2.kept (hp.below h1 hp.lt)).from h1
theorem FPost.setCell (h : FPost w w' pb a e) {p : Addr} (hp : w.heap.size ≤ p.block) (hpb : pb < w.heap.size) (u : Value) : FPost w (w'.setCell p u) pb a e :=
  ⟨h.1.setCell (.inr hp) u, by rw [World.cell?_setCell_other _ _ _ _ (fun e => by subst e; simp at hp; omega)]; exact h.2.1, by rw [World.cell?_setCell_other _ _ _ _ (fun e => by subst e; simp at hp; omega)]; exact h.2.2.1, h.2.2.2.imp fun cs hb => ⟨hb.1.far (p := p) (by intro e; omega) u, hb.2⟩⟩
theorem FPost.later (h : FPost w w1 pb a e) (hpb : pb < w.heap.size) (hb : Below w1.heap.size w1 w') : FPost w w' pb a e :=
  ⟨h.1.later hb, by rw [hb.cell (by have := h.1.size; simp; omega)]; exact h.2.1, by rw [hb.cell (by have := h.1.size; simp; omega)]; exact h.2.2.1, h.2.2.2.imp fun cs hc => ⟨hc.1.below hb hc.1.lt, hc.2⟩⟩
end
/-- an entry is being added: the boxes of the call, the parser's block, its rows. vm: the nodes as they lie in the row; vs, ns: the nodes as they will. -/
structure AMid (B : Nat) (V : PV) (w : World) (pb : Nat) (s : Ini.Str) (st : Ini.St) (tcs ncs rcs : Array Value) (wx : World) (scs mcs : Array Value) (nv sv : Value) (vm vs : List NV) (ns : List Ini.Nd) (sp : List Ini.Sp) : Prop where
  size : w.heap.size + 5 ≤ wx.heap.size
  base : B ≤ w.heap.size
  le : B ≤ pb
  lt : pb < w.heap.size
  tb : Blk wx w.heap.size 60 tcs
  nb : Blk wx (w.heap.size + 1) 49 ncs
  sb : Blk wx (w.heap.size + 1 + 1) 45 scs
  rb : Blk wx (w.heap.size + 1 + 1 + 1) 60 rcs
  mb : Blk wx (w.heap.size + 4) 49 mcs
  blk : Blk wx pb 62 (pcells { V with nv := nv, sv := sv } s st.node st.span)
  nodes : OwnRow nodeL wx B 49 nv vm
  spans : OwnRow spanL wx B 45 sv sp
  notes : OwnRow noteL wx B 54 V.tv st.notes
  rows : Rows B wx vs ns
  kept : KeptBut' w wx (V.own pb)
  newn : ∀ g, nv.ownBlock = some g → (V.nv.ownBlock = some g ∧ g < w.heap.size) ∨ w.heap.size + 5 ≤ g
  news : ∀ g, sv.ownBlock = some g → (V.sv.ownBlock = some g ∧ g < w.heap.size) ∨ w.heap.size + 5 ≤ g
  newi : ∀ j b g, (ints vs j b).v.ownBlock = some g → (∃ j b, (ints V.vs j b).v.ownBlock = some g) ∨ w.heap.size ≤ g
section
variable {B : Nat} {V : PV} {w : World} {pb : Nat} {s : Ini.Str} {st : Ini.St} {tcs ncs rcs : Array Value} {wx : World} {scs mcs : Array Value} {nv sv : Value} {vm vs : List NV} {ns : List Ini.Nd} {sp : List Ini.Sp}
theorem AMid.alloc (h : AMid B V w pb s st tcs ncs rcs wx scs mcs nv sv vm vs ns sp) (o : Obj) : AMid B V w pb s st tcs ncs rcs (wx.alloc o) scs mcs nv sv vm vs ns sp :=
  ⟨by rw [World.size_alloc]; have := h.size; omega, h.base, h.le, h.lt, h.tb.alloc _, h.nb.alloc _, h.sb.alloc _, h.rb.alloc _, h.mb.alloc _, h.blk.alloc _, h.nodes.alloc _, h.spans.alloc _, h.notes.alloc _, h.rows.kept (KeptT.alloc _ _ _), h.kept.alloc _, h.newn, h.news, h.newi⟩
theorem AMid.drew (h : AMid B V w pb s st tcs ncs rcs wx scs mcs nv sv vm vs ns sp) : AMid B V w pb s st tcs ncs rcs wx.drew scs mcs nv sv vm vs ns sp :=
  ⟨h.size, h.base, h.le, h.lt, h.tb, h.nb, h.sb, h.rb, h.mb, h.blk, h.nodes, h.spans, h.notes, h.rows.kept (KeptT.drew _ _), h.kept.drew, h.newn, h.news, h.newi⟩
theorem AMid.node_ne (h : AMid B V w pb s st tcs ncs rcs wx scs mcs nv sv vm vs ns sp) {k : Nat} (hk : k < 5) : nv.ownBlock ≠ some (w.heap.size + k) := by
  intro e
  rcases h.newn _ e with h1 | h1
  · omega
  · omega
theorem AMid.span_ne (h : AMid B V w pb s st tcs ncs rcs wx scs mcs nv sv vm vs ns sp) {k : Nat} (hk : k < 5) : sv.ownBlock ≠ some (w.heap.size + k) := by
  intro e
  rcases h.news _ e with h1 | h1
  · omega
  · omega
/-- the rows of numbers under other names. -/
theorem AMid.snoc (h : AMid B V w pb s st tcs ncs rcs wx scs mcs nv sv vm vs ns sp) (kind : Nat) (text : Ini.Str) : AMid B V w pb s st tcs ncs rcs wx scs mcs nv sv vm (vs ++ [⟨kind, text, SV.nil, SV.nil⟩]) (ns ++ [⟨kind, text, [], []⟩]) sp := by
  refine { h with rows := h.rows.snoc kind text, newi := ?_ }
  intro j b g hg
  have e1 : ints (vs ++ [⟨kind, text, SV.nil, SV.nil⟩]) j b = ints vs j b := by
    unfold ints
    by_cases hj : j < vs.length
    · rw [List.getElem?_append_left hj]
    · rw [List.getElem?_append_right (by omega), List.getElem?_eq_none (l := vs) (by omega)]
      cases hh : j - vs.length with
      | zero => simp
      | succ n => simp
  rw [e1] at hg
  exact h.newi j b g hg
/-- the nodes' row has grown, and the parser has it. -/
theorem AMid.appNodes (h : AMid B V w pb s st tcs ncs rcs wx scs mcs nv sv vm vs ns sp) {w2 : World} {v' : Value} {vm' : List NV} (hown : OwnRow nodeL w2 B 49 v' vm') (hg : wx.grownBy w2 nv.ownBlock)
    (hat : v'.ownBlock = nv.ownBlock ∨ v'.ownBlock = some wx.heap.size) : AMid B V w pb s st tcs ncs rcs (w2.setCell ⟨pb, 5, none⟩ v') scs mcs v' sv vm' vs ns sp := by
  have hp2 : Blk w2 pb 62 _ := h.blk.grown hg (fun e => own_blk_ne h.nodes h.blk (by decide) e.symm)
  have hp3 := hp2.set_ 5 v'
  have hn0 : ∀ k, k < 5 → some (w.heap.size + k) ≠ nv.ownBlock := fun k hk e => h.node_ne hk e.symm
  have far : ∀ {g t cs}, Blk w2 g t cs → g ≠ pb → Blk (w2.setCell ⟨pb, 5, none⟩ v') g t cs := fun hb hne => hb.far hne _
  have hlt := h.lt
  have kT : ∀ t, t ≠ 49 → t ≠ 62 → KeptT t wx (w2.setCell ⟨pb, 5, none⟩ v') := fun t h1 h2 =>
    (KeptT.grown hg h.nodes (fun e => h1 e.symm)).trans (KeptT.setCell (p := ⟨pb, 5, none⟩) hp2 h2 _)
  refine ⟨?_, h.base, h.le, h.lt, far (h.tb.grown hg (hn0 0 (by omega))) (by omega), far (h.nb.grown hg (hn0 1 (by omega))) (by omega), far (h.sb.grown hg (hn0 2 (by omega))) (by omega), far (h.rb.grown hg (hn0 3 (by omega))) (by omega), far (h.mb.grown hg (hn0 4 (by omega))) (by omega), ?_, ?_, h.spans.kept (kT _ (by decide) (by decide)), h.notes.kept (kT _ (by decide) (by decide)), h.rows.kept (kT _ (by decide) (by decide)), ?_, ?_, h.news, h.newi⟩
  · have := h.size; have := hg.size; simp [World.setCell]; omega
  · exact hp3
  · exact hown.kept (KeptT.setCell (p := ⟨pb, 5, none⟩) hp2 (by decide) _)
  · refine (h.kept.grown hg (fun g e => ?_)).setCell (p := ⟨pb, 5, none⟩) (.inl (.inl rfl)) _
    rcases h.newn g e with h1 | h1
    · exact .inl (.inr (.inl h1.1))
    · exact .inr (by omega)
  · intro g e
    rcases hat with h1 | h1
    · exact h.newn g (by rw [← h1]; exact e)
    · rw [h1] at e
      injection e with e
      have := h.size
      exact .inr (by omega)
/-- the spans' row has grown, and the parser has it. -/
theorem AMid.appSpans (h : AMid B V w pb s st tcs ncs rcs wx scs mcs nv sv vm vs ns sp) {w2 : World} {v' : Value} {sp' : List Ini.Sp} (hown : OwnRow spanL w2 B 45 v' sp') (hg : wx.grownBy w2 sv.ownBlock)
    (hat : v'.ownBlock = sv.ownBlock ∨ v'.ownBlock = some wx.heap.size) : AMid B V w pb s st tcs ncs rcs (w2.setCell ⟨pb, 7, none⟩ v') scs mcs nv v' vm vs ns sp' := by
  have hp2 : Blk w2 pb 62 _ := h.blk.grown hg (fun e => own_blk_ne h.spans h.blk (by decide) e.symm)
  have hp3 := hp2.set_ 7 v'
  have hn0 : ∀ k, k < 5 → some (w.heap.size + k) ≠ sv.ownBlock := fun k hk e => h.span_ne hk e.symm
  have far : ∀ {g t cs}, Blk w2 g t cs → g ≠ pb → Blk (w2.setCell ⟨pb, 7, none⟩ v') g t cs := fun hb hne => hb.far hne _
  have hlt := h.lt
  have kT : ∀ t, t ≠ 45 → t ≠ 62 → KeptT t wx (w2.setCell ⟨pb, 7, none⟩ v') := fun t h1 h2 =>
    (KeptT.grown hg h.spans (fun e => h1 e.symm)).trans (KeptT.setCell (p := ⟨pb, 7, none⟩) hp2 h2 _)
  refine ⟨?_, h.base, h.le, h.lt, far (h.tb.grown hg (hn0 0 (by omega))) (by omega), far (h.nb.grown hg (hn0 1 (by omega))) (by omega), far (h.sb.grown hg (hn0 2 (by omega))) (by omega), far (h.rb.grown hg (hn0 3 (by omega))) (by omega), far (h.mb.grown hg (hn0 4 (by omega))) (by omega), ?_, h.nodes.kept (kT _ (by decide) (by decide)), ?_, h.notes.kept (kT _ (by decide) (by decide)), h.rows.kept (kT _ (by decide) (by decide)), ?_, h.newn, ?_, h.newi⟩
  · have := h.size; have := hg.size; simp [World.setCell]; omega
  · exact hp3
  · exact hown.kept (KeptT.setCell (p := ⟨pb, 7, none⟩) hp2 (by decide) _)
  · refine (h.kept.grown hg (fun g e => ?_)).setCell (p := ⟨pb, 7, none⟩) (.inl (.inl rfl)) _
    rcases h.news g e with h1 | h1
    · exact .inl (.inr (.inr (.inl h1.1)))
    · exact .inr (by omega)
  · intro g e
    rcases hat with h1 | h1
    · exact h.news g (by rw [← h1]; exact e)
    · rw [h1] at e
      injection e with e
      have := h.size
      exact .inr (by omega)
/-- a store into the span's box. -/
theorem AMid.setSpan (h : AMid B V w pb s st tcs ncs rcs wx scs mcs nv sv vm vs ns sp) (i : Nat) (u : Value) : AMid B V w pb s st tcs ncs rcs (wx.setCell ⟨w.heap.size + 1 + 1, i, none⟩ u) (scs.setIfInBounds i u) mcs nv sv vm vs ns sp := by
  have hlt := h.lt
  have far : ∀ {g t cs}, Blk wx g t cs → g ≠ w.heap.size + 1 + 1 → Blk (wx.setCell ⟨w.heap.size + 1 + 1, i, none⟩ u) g t cs := fun hb hne => hb.far (p := ⟨w.heap.size + 1 + 1, i, none⟩) hne _
  have kT : ∀ t, t ≠ 45 → KeptT t wx (wx.setCell ⟨w.heap.size + 1 + 1, i, none⟩ u) := fun t h1 => KeptT.setCell (p := ⟨w.heap.size + 1 + 1, i, none⟩) h.sb h1 _
  refine ⟨by have := h.size; simp [World.setCell]; omega, h.base, h.le, h.lt, far h.tb (by omega), far h.nb (by omega), h.sb.set_ i u, far h.rb (by omega), far h.mb (by omega), far h.blk (by omega), h.nodes.kept (kT _ (by decide)), ?_, h.notes.kept (kT _ (by decide)), h.rows.kept (kT _ (by decide)), h.kept.setCell (p := ⟨w.heap.size + 1 + 1, i, none⟩) (.inr (by simp; omega)) _, h.newn, h.news, h.newi⟩
  exact h.spans.setCell (p := ⟨w.heap.size + 1 + 1, i, none⟩) (h.span_ne (k := 2) (by omega)) _
/-- a store into the result's box. -/
theorem AMid.setRes (h : AMid B V w pb s st tcs ncs rcs wx scs mcs nv sv vm vs ns sp) (i : Nat) (u : Value) : AMid B V w pb s st tcs ncs (rcs.setIfInBounds i u) (wx.setCell ⟨w.heap.size + 1 + 1 + 1, i, none⟩ u) scs mcs nv sv vm vs ns sp := by
  have hlt := h.lt
  have far : ∀ {g t cs}, Blk wx g t cs → g ≠ w.heap.size + 1 + 1 + 1 → Blk (wx.setCell ⟨w.heap.size + 1 + 1 + 1, i, none⟩ u) g t cs := fun hb hne => hb.far (p := ⟨w.heap.size + 1 + 1 + 1, i, none⟩) hne _
  have kT : ∀ t, t ≠ 60 → KeptT t wx (wx.setCell ⟨w.heap.size + 1 + 1 + 1, i, none⟩ u) := fun t h1 => KeptT.setCell (p := ⟨w.heap.size + 1 + 1 + 1, i, none⟩) h.rb h1 _
  exact ⟨by have := h.size; simp [World.setCell]; omega, h.base, h.le, h.lt, far h.tb (by omega), far h.nb (by omega), far h.sb (by omega), h.rb.set_ i u, far h.mb (by omega), far h.blk (by omega), h.nodes.kept (kT _ (by decide)), h.spans.kept (kT _ (by decide)), h.notes.kept (kT _ (by decide)), h.rows.kept (kT _ (by decide)), h.kept.setCell (p := ⟨w.heap.size + 1 + 1 + 1, i, none⟩) (.inr (by simp; omega)) _, h.newn, h.news, h.newi⟩
/-- a row of numbers has grown, and the node's box has it. -/
theorem AMid.appInts (h : AMid B V w pb s st tcs ncs rcs wx scs mcs nv sv vm vs ns sp) {w2 : World} {x : SV} {l : List Nat} {v : Value} {i : Nat} (_hi : i = 3 ∨ i = 4) (hold : OwnRow intL wx B 3 v l) (hg : wx.grownBy w2 v.ownBlock)
    (hv : ∀ g, v.ownBlock = some g → ∃ j b, (ints vs j b).v.ownBlock = some g) {vs' : List NV} {ns' : List Ini.Nd} (hr : Rows B w2 vs' ns') (hnew : ∀ j b g, (ints vs' j b).v.ownBlock = some g → (∃ j b, (ints vs j b).v.ownBlock = some g) ∨ w.heap.size ≤ g) :
    AMid B V w pb s st tcs ncs rcs (w2.setCell ⟨w.heap.size + 4, i, none⟩ x.v) scs (mcs.setIfInBounds i x.v) nv sv vm vs' ns' sp := by
  have hlt := h.lt
  have kg : ∀ t, t ≠ 3 → KeptT t wx w2 := fun t h1 => KeptT.grown hg hold (fun e => h1 e.symm)
  have hm2 : Blk w2 (w.heap.size + 4) 49 mcs := kg 49 (by decide) _ _ h.mb
  have kT : ∀ t, t ≠ 3 → t ≠ 49 → KeptT t wx (w2.setCell ⟨w.heap.size + 4, i, none⟩ x.v) := fun t h1 h2 => (kg t h1).trans (KeptT.setCell (p := ⟨w.heap.size + 4, i, none⟩) hm2 h2 _)
  refine ⟨by have := h.size; have := hg.size; simp [World.setCell]; omega, h.base, h.le, h.lt, kT _ (by decide) (by decide) _ _ h.tb, (kg _ (by decide) _ _ h.nb).far (by simp) _, kT _ (by decide) (by decide) _ _ h.sb, kT _ (by decide) (by decide) _ _ h.rb, hm2.set_ i _, kT _ (by decide) (by decide) _ _ h.blk, ?_, h.spans.kept (kT _ (by decide) (by decide)), h.notes.kept (kT _ (by decide) (by decide)), ?_, ?_, h.newn, h.news, ?_⟩
  · exact (h.nodes.kept (kg _ (by decide))).setCell (p := ⟨w.heap.size + 4, i, none⟩) (h.node_ne (k := 4) (by omega)) _
  · exact hr.kept (KeptT.setCell (p := ⟨w.heap.size + 4, i, none⟩) hm2 (by decide) _)
  · refine (h.kept.grown hg (fun g e => ?_)).setCell (p := ⟨w.heap.size + 4, i, none⟩) (.inr (by simp)) _
    obtain ⟨j, b, e2⟩ := hv g e
    rcases h.newi j b g e2 with h1 | h1
    · exact .inl (.inr (.inr (.inr (.inr h1))))
    · exact .inr h1
  · intro j b g e
    rcases hnew j b g e with ⟨j2, b2, e2⟩ | h1
    · exact h.newi j2 b2 g e2
    · exact .inr h1
/-- five cells of one block. -/
def set5 (w : World) (g k : Nat) (u0 u1 u2 u3 u4 : Value) : World := ((((w.setCell ⟨g, k, none⟩ u0).setCell ⟨g, k + 1, none⟩ u1).setCell ⟨g, k + 2, none⟩ u2).setCell ⟨g, k + 3, none⟩ u3).setCell ⟨g, k + 4, none⟩ u4
theorem setCell_size (w : World) (p : Addr) (u : Value) : (w.setCell p u).heap.size = w.heap.size := by simp [World.setCell]
theorem set5_size (w : World) (g k : Nat) (u0 u1 u2 u3 u4 : Value) : (set5 w g k u0 u1 u2 u3 u4).heap.size = w.heap.size := by
  unfold set5; rw [setCell_size, setCell_size, setCell_size, setCell_size, setCell_size]
theorem set5_far {w : World} {g k : Nat} {u0 u1 u2 u3 u4 : Value} {b : Nat} {t : TypeId} {cs : Array Value} (hb : Blk w b t cs) (hne : b ≠ g) : Blk (set5 w g k u0 u1 u2 u3 u4) b t cs := by
  unfold set5
  have h1 := hb.far (p := ⟨g, k, none⟩) hne u0
  have h2 := h1.far (p := ⟨g, k + 1, none⟩) hne u1
  have h3 := h2.far (p := ⟨g, k + 2, none⟩) hne u2
  have h4 := h3.far (p := ⟨g, k + 3, none⟩) hne u3
  exact h4.far (p := ⟨g, k + 4, none⟩) hne u4
theorem set5_kept {a w : World} {S : Nat → Prop} (h : KeptBut' a w S) {g k : Nat} (hg : S g ∨ a.heap.size ≤ g) (u0 u1 u2 u3 u4 : Value) : KeptBut' a (set5 w g k u0 u1 u2 u3 u4) S := by
  unfold set5
  have h1 := h.setCell (p := ⟨g, k, none⟩) hg u0
  have h2 := h1.setCell (p := ⟨g, k + 1, none⟩) hg u1
  have h3 := h2.setCell (p := ⟨g, k + 2, none⟩) hg u2
  have h4 := h3.setCell (p := ⟨g, k + 3, none⟩) hg u3
  exact h4.setCell (p := ⟨g, k + 4, none⟩) hg u4
/-- the node's box is stored into the nodes' row. -/
theorem AMid.store (h : AMid B V w pb s st tcs ncs rcs wx scs mcs nv sv vm vs ns sp) {g cap : Nat} (hv : nv = .slice (some ⟨g, 0, none⟩) vm.length cap) (k : Nat) (hk : k < vm.length) (x : NV) :
    AMid B V w pb s st tcs ncs rcs (set5 wx g (k * 5) (.int .i64 (x.kind : Int)) (.string ⟨x.text.toArray⟩) (.bool false) (.slice x.k.a x.k.n x.k.c) (.slice x.i.a x.i.n x.i.c)) scs mcs nv sv (vm.set k x) vs ns sp := by
  obtain ⟨g', cap', rest, hv', _, hG, _, hback⟩ := h.nodes.row (by intro e; rw [e] at hk; simp at hk)
  rw [hv] at hv'
  obtain ⟨rfl, rfl⟩ : g = g' ∧ cap = cap' := by
    simp only [Value.slice.injEq, Option.some.injEq, Addr.mk.injEq, and_true, true_and] at hv'
    exact hv'
  have hown : nv.ownBlock = some g := by rw [hv]; rfl
  have hne : ∀ j, j < 5 → w.heap.size + j ≠ g := fun j hj e => h.node_ne hj (by rw [hown, e])
  have hgw : V.own pb g ∨ w.heap.size ≤ g := by
    rcases h.newn g hown with h1 | h1
    · exact .inl (.inr (.inl h1.1))
    · exact .inr (by omega)
  have h5 : Blk (set5 wx g (k * 5) (.int .i64 (x.kind : Int)) (.string ⟨x.text.toArray⟩) (.bool false) (.slice x.k.a x.k.n x.k.c) (.slice x.i.a x.i.n x.i.c)) g 49 _ := nodes_set5 hG k hk x
  have hK := set5_kept h.kept (k := k * 5) hgw (.int .i64 (x.kind : Int)) (.string ⟨x.text.toArray⟩) (.bool false) (.slice x.k.a x.k.n x.k.c) (.slice x.i.a x.i.n x.i.c)
  have hS := set5_size wx g (k * 5) (.int .i64 (x.kind : Int)) (.string ⟨x.text.toArray⟩) (.bool false) (.slice x.k.a x.k.n x.k.c) (.slice x.i.a x.i.n x.i.c)
  have far : ∀ {b t cs}, Blk wx b t cs → b ≠ g → Blk (set5 wx g (k * 5) (.int .i64 (x.kind : Int)) (.string ⟨x.text.toArray⟩) (.bool false) (.slice x.k.a x.k.n x.k.c) (.slice x.i.a x.i.n x.i.c)) b t cs := fun hb hne => set5_far hb hne
  obtain ⟨w5, hw5⟩ : ∃ w5, w5 = set5 wx g (k * 5) (.int .i64 (x.kind : Int)) (.string ⟨x.text.toArray⟩) (.bool false) (.slice x.k.a x.k.n x.k.c) (.slice x.i.a x.i.n x.i.c) := ⟨_, rfl⟩
  rw [← hw5] at h5 hK hS ⊢
  simp only [← hw5] at far
  clear hw5
  have kT : ∀ t, t ≠ 49 → KeptT t wx w5 := fun t h1 b cs hb => far hb (fun e => by subst e; exact Blk.ne_ hb hG h1 rfl)
  have hpg : pb ≠ g := Blk.ne_ h.blk hG (by decide)
  have hz := h.size
  exact ⟨by omega, h.base, h.le, h.lt, far h.tb (hne 0 (by omega)), far h.nb (hne 1 (by omega)), far h.sb (hne 2 (by omega)), far h.rb (hne 3 (by omega)), far h.mb (hne 4 (by omega)), far h.blk hpg, hback _ _ (by simp) h5, h.spans.kept (kT _ (by decide)), h.notes.kept (kT _ (by decide)), h.rows.kept (kT _ (by decide)), hK, h.newn, h.news, h.newi⟩
/-- the entry is there. -/
theorem AMid.done (h : AMid B V w pb s st tcs ncs rcs wx scs mcs nv sv vs vs ns sp) : PAt B { V with nv := nv, sv := sv, vs := vs } wx pb s { st with nodes := ns, spans := sp } ∧
    (∀ g, PV.own { V with nv := nv, sv := sv, vs := vs } pb g → V.own pb g ∨ w.heap.size ≤ g) ∧ KeptBut' w wx (V.own pb) := by
  refine ⟨⟨h.le, by have := h.base; have := h.size; omega, h.blk, h.nodes, h.spans, h.notes, h.rows⟩, ?_, h.kept⟩
  rintro g (rfl | hg | hg | hg | ⟨j, b, hg⟩)
  · exact .inl (.inl rfl)
  · rcases h.newn g hg with h1 | h1
    · exact .inl (.inr (.inl h1.1))
    · exact .inr (by omega)
  · rcases h.news g hg with h1 | h1
    · exact .inl (.inr (.inr (.inl h1.1)))
    · exact .inr (by omega)
  · exact .inl (.inr (.inr (.inr (.inl hg))))
  · rcases h.newi j b g hg with h1 | h1
    · exact .inl (.inr (.inr (.inr (.inr h1))))
    · exact .inr h1
end
end Go.Proofs.YtegdemnfjmaicaaDoor
namespace Go.Proofs.YtegdemnfjmaicaaDoor
open Go.RowKit
section
variable {B : Nat} {V : PV} {w : World} {pb : Nat} {s : Ini.Str} {st : Ini.St} {tcs ncs rcs : Array Value} {wx : World} {scs mcs : Array Value} {nv sv : Value} {vm vs : List NV} {ns : List Ini.Nd} {sp : List Ini.Sp}
theorem ints_at {vs : List NV} {j : Nat} {x : NV} (h : vs[j]? = some x) (b : Bool) : ints vs j b = if b then x.i else x.k := by unfold ints; rw [h]
theorem intsOf_at {ns : List Ini.Nd} {j : Nat} {m : Ini.Nd} (h : ns[j]? = some m) (b : Bool) : intsOf ns j b = if b then m.items else m.keys := by unfold intsOf; rw [h]
theorem ints_set {vs : List NV} {j : Nat} {x y : NV} (h : vs[j]? = some x) (j' : Nat) (b : Bool) : ints (vs.set j y) j' b = if j' = j then (if b then y.i else y.k) else ints vs j' b := by
  have hj : j < vs.length := (List.getElem?_eq_some_iff.1 h).1
  unfold ints
  by_cases he : j' = j
  · subst he; rw [if_pos rfl, List.getElem?_set_self hj]
  · rw [if_neg he, List.getElem?_set_ne (fun e => he e.symm)]
theorem AMid.keysOf (h : AMid B V w pb s st tcs ncs rcs wx scs mcs nv sv vm vs ns sp) {node : Nat} {x : NV} {m : Ini.Nd} (hv : vs[node]? = some x) (hn : ns[node]? = some m) :
    OwnRow intL wx B 3 x.k.v m.keys ∧ OwnRow intL wx B 3 x.i.v m.items := by
  have h1 := h.rows.own node false
  have h2 := h.rows.own node true
  rw [ints_at hv, intsOf_at hn] at h1 h2
  exact ⟨h1, h2⟩
theorem AMid.appKeys (h : AMid B V w pb s st tcs ncs rcs wx scs mcs nv sv vm vs ns sp) {node : Nat} {x : NV} {m : Ini.Nd} (hv : vs[node]? = some x) (hn : ns[node]? = some m) {w2 : World} {k' : SV} {kk : Nat}
    (hown : OwnRow intL w2 B 3 k'.v (m.keys ++ [kk])) (hg : wx.grownBy w2 x.k.v.ownBlock) (hat : k'.v.ownBlock = x.k.v.ownBlock ∨ k'.v.ownBlock = some wx.heap.size) :
    AMid B V w pb s st tcs ncs rcs (w2.setCell ⟨w.heap.size + 4, 3, none⟩ k'.v) scs (mcs.setIfInBounds 3 k'.v) nv sv vm (vs.set node ⟨x.kind, x.text, k', x.i⟩) (ns.set node { m with keys := m.keys ++ [kk] }) sp := by
  obtain ⟨hj, hx⟩ := List.getElem?_eq_some_iff.1 hv
  obtain ⟨hjn, hm⟩ := List.getElem?_eq_some_iff.1 hn
  have e0 := ints_at hv false
  have e1 := ints_at hv true
  have e2 := intsOf_at hn true
  refine h.appInts (.inl rfl) (h.keysOf hv hn).1 hg (fun g hg => ⟨node, false, by rw [e0]; exact hg⟩) ?_ ?_
  · refine h.rows.grow node false ⟨x.kind, x.text, k', x.i⟩ { m with keys := m.keys ++ [kk] } hj (by rw [hx]; exact ⟨rfl, rfl⟩) (by rw [hm]; exact ⟨rfl, rfl⟩) (by rw [Bool.not_false, e1]; rfl) (by rw [Bool.not_false, e2]; rfl) hown (by rw [e0]; exact hg) (by rw [e0]; exact hat)
  · intro j b g hg2
    rw [ints_set hv] at hg2
    by_cases he : j = node
    · rw [if_pos he] at hg2
      cases b with
      | true => exact .inl ⟨node, true, by rw [e1]; exact hg2⟩
      | false =>
        rcases hat with h1 | h1
        · exact .inl ⟨node, false, by rw [e0]; exact h1.symm.trans hg2⟩
        · have hz := h.size
          have : some g = some wx.heap.size := hg2.symm.trans h1
          injection this with this
          exact .inr (by omega)
    · rw [if_neg he] at hg2
      exact .inl ⟨j, b, hg2⟩
theorem AMid.appItems (h : AMid B V w pb s st tcs ncs rcs wx scs mcs nv sv vm vs ns sp) {node : Nat} {x : NV} {m : Ini.Nd} (hv : vs[node]? = some x) (hn : ns[node]? = some m) {w2 : World} {k' : SV} {kk : Nat}
    (hown : OwnRow intL w2 B 3 k'.v (m.items ++ [kk])) (hg : wx.grownBy w2 x.i.v.ownBlock) (hat : k'.v.ownBlock = x.i.v.ownBlock ∨ k'.v.ownBlock = some wx.heap.size) :
    AMid B V w pb s st tcs ncs rcs (w2.setCell ⟨w.heap.size + 4, 4, none⟩ k'.v) scs (mcs.setIfInBounds 4 k'.v) nv sv vm (vs.set node ⟨x.kind, x.text, x.k, k'⟩) (ns.set node { m with items := m.items ++ [kk] }) sp := by
  obtain ⟨hj, hx⟩ := List.getElem?_eq_some_iff.1 hv
  obtain ⟨hjn, hm⟩ := List.getElem?_eq_some_iff.1 hn
  have e0 := ints_at hv false
  have e1 := ints_at hv true
  have e2 := intsOf_at hn false
  refine h.appInts (.inr rfl) (h.keysOf hv hn).2 hg (fun g hg => ⟨node, true, by rw [e1]; exact hg⟩) ?_ ?_
  · refine h.rows.grow node true ⟨x.kind, x.text, x.k, k'⟩ { m with items := m.items ++ [kk] } hj (by rw [hx]; exact ⟨rfl, rfl⟩) (by rw [hm]; exact ⟨rfl, rfl⟩) (by rw [Bool.not_true, e0]; rfl) (by rw [Bool.not_true, e2]; rfl) hown (by rw [e1]; exact hg) (by rw [e1]; exact hat)
  · intro j b g hg2
    rw [ints_set hv] at hg2
    by_cases he : j = node
    · rw [if_pos he] at hg2
      cases b with
      | false => exact .inl ⟨node, false, by rw [e0]; exact hg2⟩
      | true =>
        rcases hat with h1 | h1
        · exact .inl ⟨node, true, by rw [e1]; exact h1.symm.trans hg2⟩
        · have hz := h.size
          have : some g = some wx.heap.size := hg2.symm.trans h1
          injection this with this
          exact .inr (by omega)
    · rw [if_neg he] at hg2
      exact .inl ⟨j, b, hg2⟩
end
end Go.Proofs.YtegdemnfjmaicaaDoor

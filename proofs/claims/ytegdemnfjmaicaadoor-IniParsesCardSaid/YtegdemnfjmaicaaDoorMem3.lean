/- The parser's memory behind a line: what header, entry and one leave. -/
import Derived.Test.YtegdemnfjmaicaaDoorMid
import Derived.Test.YtegdemnfjmaicaaDoorPlainZ
namespace Go.Proofs.YtegdemnfjmaicaaDoor
open Go.RowKit
/-- a state that is left. -/
def PNext (B : Nat) (V : PV) (w w' : World) (pb : Nat) (s : Ini.Str) (st' : Ini.St) : Prop :=
  ∃ V', PAt B V' w' pb s st' ∧ (∀ g, V'.own pb g → V.own pb g ∨ w.heap.size ≤ g) ∧ KeptBut' w w' (V.own pb)
/-- what a line's reader answers. -/
def LPost (B : Nat) (V : PV) (w : World) (pb : Nat) (s : Ini.Str) (R : Ini.Res Ini.St) (e : Ending) (w' : World) : Prop :=
  match R with
  | .err a c => e = .returned (.bool false) ∧ FPost w w' pb a c
  | .ok st' => e = .returned (.bool true) ∧ PNext B V w w' pb s st'
section
variable {B : Nat} {V : PV} {w w1 w' w2 : World} {pb : Nat} {s : Ini.Str} {st st' : Ini.St}
theorem PNext.refl (h : PAt B V w pb s st) : PNext B V w w pb s st := ⟨V, h, fun _ hg => .inl hg, KeptBut'.refl _ _⟩
theorem PNext.from (h : PNext B V w1 w' pb s st') (hb : Below w.heap.size w w1) : PNext B V w w' pb s st' := by
  obtain ⟨V', h1, h2, h3⟩ := h
  exact ⟨V', h1, fun g hg => (h2 g hg).imp id (fun h4 => Nat.le_trans hb.size h4), (KeptBut'.of_below hb _).trans h3 (fun g hg => .inl hg)⟩
theorem PNext.later (h : PNext B V w w' pb s st') (hb : Below w'.heap.size w' w2) : PNext B V w w2 pb s st' := by
  obtain ⟨V', h1, h2, h3⟩ := h
  exact ⟨V', h1.later hb, h2, h3.later hb⟩
theorem KeptT.setCell2 {t : TypeId} {w : World} {g : Nat} {cs : Array Value} {t' : TypeId} (h : Blk w g t' cs) (hne : t ≠ t') (i j : Nat) (u v : Value) : KeptT t w ((w.setCell ⟨g, i, none⟩ u).setCell ⟨g, j, none⟩ v) :=
  (KeptT.setCell (p := ⟨g, i, none⟩) h hne u).trans (KeptT.setCell (p := ⟨g, j, none⟩) (h.set_ i u) hne v)
/-- the open section is set. -/
theorem PAt.setSec (h : PAt B V w pb s st) (n k : Nat) :
    PAt B V ((w.setCell ⟨pb, 0, none⟩ (.int .i64 (n : Int))).setCell ⟨pb, 1, none⟩ (.int .i64 (k : Int))) pb s { st with node := n, span := k } := by
  have kT : ∀ t, t ≠ 62 → KeptT t w _ := fun t ht => KeptT.setCell2 h.blk ht 0 1 (.int .i64 (n : Int)) (.int .i64 (k : Int))
  refine ⟨h.le, by rw [setCell_size, setCell_size]; exact h.base, ?_, h.nodes.kept (kT _ (by decide)), h.spans.kept (kT _ (by decide)), h.notes.kept (kT _ (by decide)), h.rows.kept (kT _ (by decide))⟩
  exact (h.blk.set_ 0 (.int .i64 (n : Int))).set_ 1 (.int .i64 (k : Int))
theorem PNext.setSec (h : PNext B V w w' pb s st') (n k : Nat) :
    PNext B V w ((w'.setCell ⟨pb, 0, none⟩ (.int .i64 (n : Int))).setCell ⟨pb, 1, none⟩ (.int .i64 (k : Int))) pb s { st' with node := n, span := k } := by
  obtain ⟨V', h1, h2, h3⟩ := h
  exact ⟨V', h1.setSec n k, h2, (h3.setCell (p := ⟨pb, 0, none⟩) (.inl (.inl rfl)) _).setCell (p := ⟨pb, 1, none⟩) (.inl (.inl rfl)) _⟩
theorem FPost.setPb {a e : Nat} (h : FPost w w' pb a e) (i : Nat) (hi : i < 9) (u : Value) : FPost w (w'.setCell ⟨pb, i, none⟩ u) pb a e :=
  ⟨h.1.setCell (p := ⟨pb, i, none⟩) (.inl rfl) u, by rw [World.cell?_setCell_other _ _ _ _ (fun e => by injection e with _ e; omega)]; exact h.2.1, by rw [World.cell?_setCell_other _ _ _ _ (fun e => by injection e with _ e; omega)]; exact h.2.2.1, let ⟨_, hb, hc⟩ := h.2.2.2; ⟨_, hb.set_ i u, by simpa using hc⟩⟩
theorem FPost.cells {a e : Nat} (h : FPost w w' pb a e) : ∃ u v, w'.cell? ⟨pb, 0, none⟩ = some u ∧ w'.cell? ⟨pb, 1, none⟩ = some v ∧ ∀ i, w'.frozen? ⟨pb, i, none⟩ = false := by
  obtain ⟨cs, hb, hc⟩ := h.2.2.2
  exact ⟨cs[0]'(by omega), cs[1]'(by omega), by rw [hb.cell 0, Array.getElem?_eq_getElem], by rw [hb.cell 1, Array.getElem?_eq_getElem], hb.frozen⟩
/-- the spans' row. -/
theorem PAt.spanRow (h : PAt B V w pb s st) (hs : 0 < st.spans.length) : ∃ g cap rest, V.sv = .slice (some ⟨g, 0, none⟩) st.spans.length cap ∧ Blk w g 45 (spanL.all st.spans ++ rest).toArray := by
  obtain ⟨g, cap, rest, hv, _, hG, _, _⟩ := h.spans.row (by intro e; rw [e] at hs; simp at hs)
  exact ⟨g, cap, rest, hv, hG⟩
/-- a span's end is set. -/
theorem PAt.setTo (h : PAt B V w pb s st) {g cap : Nat} (hv : V.sv = .slice (some ⟨g, 0, none⟩) st.spans.length cap) (k tz : Nat) (hk : k < st.spans.length) :
    PAt B V (w.setCell ⟨g, k * 9 + 4, none⟩ (.int .i64 (tz : Int))) pb s { st with spans := Ini.setTo st.spans k tz } := by
  obtain ⟨g', cap', rest, hv', _, hG, _, hback⟩ := h.spans.row (by intro e; rw [e] at hk; simp at hk)
  rw [hv] at hv'
  obtain ⟨rfl, rfl⟩ : g = g' ∧ cap = cap' := by
    simp only [Value.slice.injEq, Option.some.injEq, Addr.mk.injEq, and_true, true_and] at hv'
    exact hv'
  have kT : ∀ t, t ≠ 45 → KeptT t w _ := fun t ht => KeptT.setCell (p := ⟨g, k * 9 + 4, none⟩) hG ht (.int .i64 (tz : Int))
  refine ⟨h.le, by rw [setCell_size]; exact h.base, kT 62 (by decide) _ _ h.blk, h.nodes.kept (kT _ (by decide)), ?_, h.notes.kept (kT _ (by decide)), h.rows.kept (kT _ (by decide))⟩
  exact hback _ _ (Ini.setTo_length _ _ _) (spans_to hG k tz hk)
theorem PNext.setTo (h : PNext B V w w' pb s st') (k tz : Nat) (hk : k < st'.spans.length) : ∃ g cap cs, w'.cell? ⟨pb, 7, none⟩ = some (.slice (some ⟨g, 0, none⟩) st'.spans.length cap) ∧ Blk w' g 45 cs ∧ k * 9 + 4 < cs.size ∧
    PNext B V w (w'.setCell ⟨g, k * 9 + 4, none⟩ (.int .i64 (tz : Int))) pb s { st' with spans := Ini.setTo st'.spans k tz } := by
  obtain ⟨V', h1, h2, h3⟩ := h
  obtain ⟨g, cap, rest, hv, hG⟩ := h1.spanRow (by omega)
  refine ⟨g, cap, _, ?_, hG, ?_, V', h1.setTo hv k tz hk, h2, ?_⟩
  · rw [h1.blk.cell 7]; show some V'.sv = _; rw [hv]
  · have := spanL.all_len st'.spans
    have e : spanL.sz = 9 := rfl
    rw [e] at this
    simp
    omega
  · refine h3.setCell (p := ⟨g, k * 9 + 4, none⟩) ?_ _
    have hown : V'.own pb g := .inr (.inr (.inl (by rw [hv]; rfl)))
    exact h2 g hown
/-- one more note. -/
theorem PAt.appNotes (h : PAt B V w pb s st) {v' : Value} {nt : List Ini.Note} (hown : OwnRow noteL w2 B 54 v' nt) (hg : w.grownBy w2 V.tv.ownBlock) (hat : v'.ownBlock = V.tv.ownBlock ∨ v'.ownBlock = some w.heap.size) :
    PNext B V w (w2.setCell ⟨pb, 8, none⟩ v') pb s { st with notes := nt } := by
  have hp2 : Blk w2 pb 62 _ := h.blk.grown hg (fun e => own_blk_ne h.notes h.blk (by decide) e.symm)
  have hp3 := hp2.set_ 8 v'
  have kT : ∀ t, t ≠ 54 → t ≠ 62 → KeptT t w (w2.setCell ⟨pb, 8, none⟩ v') := fun t h1 h2 =>
    (KeptT.grown hg h.notes (fun e => h1 e.symm)).trans (KeptT.setCell (p := ⟨pb, 8, none⟩) hp2 h2 _)
  refine ⟨{ V with tv := v' }, ⟨h.le, ?_, hp3, h.nodes.kept (kT _ (by decide) (by decide)), h.spans.kept (kT _ (by decide) (by decide)), ?_, h.rows.kept (kT _ (by decide) (by decide))⟩, ?_, ?_⟩
  · have := h.base; have := hg.size; rw [setCell_size]; omega
  · exact hown.kept (KeptT.setCell (p := ⟨pb, 8, none⟩) hp2 (by decide) _)
  · rintro g (rfl | hg2 | hg2 | hg2 | hg2)
    · exact .inl (.inl rfl)
    · exact .inl (.inr (.inl hg2))
    · exact .inl (.inr (.inr (.inl hg2)))
    · rcases hat with h1 | h1
      · exact .inl (.inr (.inr (.inr (.inl (h1.symm.trans hg2)))))
      · have : some g = some w.heap.size := hg2.symm.trans h1
        injection this with this
        exact .inr (by omega)
    · exact .inl (.inr (.inr (.inr (.inr hg2))))
  · refine ((KeptBut'.refl w (V.own pb)).grown hg (fun g e => .inl (.inr (.inr (.inr (.inl e)))))).setCell (p := ⟨pb, 8, none⟩) (.inl (.inl rfl)) _
end
end Go.Proofs.YtegdemnfjmaicaaDoor

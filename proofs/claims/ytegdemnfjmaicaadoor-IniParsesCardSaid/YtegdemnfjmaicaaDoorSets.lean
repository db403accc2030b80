/- A region that draws its order, in a round: by the sets of what has run. -/
import Derived.Test.YtegdemnfjmaicaaDoorWalk20
namespace Go.Proofs.YtegdemnfjmaicaaDoor
open Go.RowKit Go.Shelf
section
variable {F : Fence} {n : Nat} {P : Program} {md : Region.Mode} {ops : Array Oper} {Q : Exit → Act → World → Prop}
theorem wpAnyIn_sets (Inv : Nat → Array Bool → Act → World → Prop)
    (hstep : ∀ m listed a w i, Inv m listed a w → i ∈ Region.ready md ops listed → ∃ m', m = m' + 1 ∧ wpOpIn F n P ops Q i (fun a' w' => Inv m' (listed.setIfInBounds i true) a' w') a w)
    (hend : ∀ m listed a w, Inv m listed a w → Region.ready md ops listed = [] → Q .normal a w) :
    ∀ fuel listed a w, Inv fuel listed a w → wpAnyIn F n P md ops Q fuel listed a w := by
  intro fuel
  induction fuel with
  | zero =>
    intro listed a w h
    have hr : Region.ready md ops listed = [] := List.eq_nil_iff_forall_not_mem.2 (fun i hi => by obtain ⟨m', hm, _⟩ := hstep _ _ _ _ i h hi; omega)
    exact ⟨hr, hend _ _ _ _ h hr⟩
  | succ fuel ih =>
    intro listed a w h
    refine ⟨fun hr => hend _ _ _ _ h hr, fun i hi => ?_⟩
    obtain ⟨m', hm, hw⟩ := hstep _ _ _ _ i h hi
    obtain rfl : m' = fuel := by omega
    exact wpOpIn_mono (fun a w h => ih _ _ _ h) hw
variable {i : Nat} {o : Oper} {K : Act → World → Prop} {a : Act} {w w' : World}
theorem op_value (v : Value) (ho : ops[i]? = some o) (hg : o.guard = none) (hnd : ∀ c, o.op ≠ .defer c) (hab : o.about P w a.eval = none) (hrun : (execOp a.eval o).run P w = .ok (.value v) w') (hK : K (a.put o.dst v) w') : wpOpIn F n P ops Q i K a w := by
  unfold wpOpIn
  rw [ho]
  simp only [Region.wanted, hg]
  refine ⟨fun f hf => (by rw [hab] at hf; cases hf), ?_⟩
  rw [Oper.semAt_eq _ _ _ hnd, hrun]
  exact hK
theorem op_skip (ho : ops[i]? = some o) (hg : o.guard = none) (hnd : ∀ c, o.op ≠ .defer c) (hab : o.about P w a.eval = none) (hrun : (execOp a.eval o).run P w = .ok .skip w') (hK : K (a.put o.dst undef) w') : wpOpIn F n P ops Q i K a w := by
  unfold wpOpIn
  rw [ho]
  simp only [Region.wanted, hg]
  refine ⟨fun f hf => (by rw [hab] at hf; cases hf), ?_⟩
  rw [Oper.semAt_eq _ _ _ hnd, hrun]
  exact hK
end
/-- the three stores of a failure, as far as they have come. -/
def wst (W : World) (k : Nat) (a e : Value) (b9 b10 b11 : Bool) : World :=
  let w1 := cond b9 ((((((W.setCell ⟨k, 0, none⟩ (.int .i64 0)).setCell ⟨k, 1, none⟩ (.string ⟨#[]⟩)).setCell ⟨k, 2, none⟩ (.slice none 0 0)).setCell ⟨k, 3, none⟩ (.int .i64 0)).setCell ⟨k, 4, none⟩ (.slice none 0 0)).setCell ⟨k, 5, none⟩ (.slice none 0 0)) W
  let w2 := cond b10 (w1.setCell ⟨k + 1, 0, none⟩ a) w1
  cond b11 (w2.setCell ⟨k + 1 + 1, 0, none⟩ e) w2
theorem wst_far {W : World} {k : Nat} {a e : Value} {g : Nat} {t : TypeId} {cs : Array Value} (h : Blk W g t cs) (hg : k + 3 ≤ g) (b9 b10 b11 : Bool) : Blk (wst W k a e b9 b10 b11) g t cs := by
  have h1 := h.far (p := ⟨k, 0, none⟩) (by simp; omega) (.int .i64 0)
  have h2 := h1.far (p := ⟨k, 1, none⟩) (by simp; omega) (.string ⟨#[]⟩)
  have h3 := h2.far (p := ⟨k, 2, none⟩) (by simp; omega) (.slice none 0 0)
  have h4 := h3.far (p := ⟨k, 3, none⟩) (by simp; omega) (.int .i64 0)
  have h5 := h4.far (p := ⟨k, 4, none⟩) (by simp; omega) (.slice none 0 0)
  have h6 := h5.far (p := ⟨k, 5, none⟩) (by simp; omega) (.slice none 0 0)
  cases b9 <;> cases b10 <;> cases b11
  · exact h
  · exact h.far (p := ⟨k + 1 + 1, 0, none⟩) (by simp; omega) e
  · exact h.far (p := ⟨k + 1, 0, none⟩) (by simp; omega) a
  · exact (h.far (p := ⟨k + 1, 0, none⟩) (by simp; omega) a).far (p := ⟨k + 1 + 1, 0, none⟩) (by simp; omega) e
  · exact h6
  · exact h6.far (p := ⟨k + 1 + 1, 0, none⟩) (by simp; omega) e
  · exact h6.far (p := ⟨k + 1, 0, none⟩) (by simp; omega) a
  · exact (h6.far (p := ⟨k + 1, 0, none⟩) (by simp; omega) a).far (p := ⟨k + 1 + 1, 0, none⟩) (by simp; omega) e
end Go.Proofs.YtegdemnfjmaicaaDoor

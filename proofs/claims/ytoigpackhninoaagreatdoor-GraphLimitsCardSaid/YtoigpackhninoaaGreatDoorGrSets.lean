/- A region that draws its order: by the sets of what has run. -/
import Derived.Test.YtoigpackhninoaaGreatDoorGrTv
namespace Go.Proofs.YtoigpackhninoaaGreatDoor
open Go.RowKit
section
variable {P : Program} {md : Region.Mode} {ops : Array Oper} {Q : Exit → Act → World → Prop}
theorem wpAny_sets (Inv : Nat → Array Bool → Act → World → Prop)
    (hstep : ∀ m listed a w i, Inv m listed a w → i ∈ Region.ready md ops listed → ∃ m', m = m' + 1 ∧ wpOp P ops Q i (fun a' w' => Inv m' (listed.setIfInBounds i true) a' w') a w)
    (hend : ∀ m listed a w, Inv m listed a w → Region.ready md ops listed = [] → Q .normal a w) :
    ∀ fuel listed a w, Inv fuel listed a w → wpAny P md ops Q fuel listed a w := by
  intro fuel
  induction fuel with
  | zero =>
    intro listed a w h
    have hr : Region.ready md ops listed = [] := List.eq_nil_iff_forall_not_mem.2 (fun i hi => by obtain ⟨m', hm, _⟩ := hstep _ _ _ _ i h hi; omega)
    exact ⟨hr, hend _ _ _ _ h hr⟩
  | succ fuel ih =>
    intro listed a w h
    refine ⟨fun hr => hend _ _ _ _ h hr, fun i hi => ?_⟩
    obtain ⟨m', hm, hw⟩ := hstep _ _ _ _ i h hi
    obtain rfl : m' = fuel := by omega
    exact wpOp_mono (fun a w h => ih _ _ _ h) hw
variable {i : Nat} {o : Oper} {K : Act → World → Prop} {a : Act} {w w' : World}
theorem op_value (v : Value) (ho : ops[i]? = some o) (hg : o.guard = none) (hrun : (execOp a.eval o).run P w = .ok (.value v) w') (hK : K (a.put o.dst v) w') : wpOp P ops Q i K a w := by
  unfold wpOp
  rw [ho]
  simp only [Region.wanted, hg, if_true]
  left
  unfold Oper.wp
  rw [hrun]
  exact hK
theorem op_skip (ho : ops[i]? = some o) (hg : o.guard = none) (hrun : (execOp a.eval o).run P w = .ok .skip w') (hK : K (a.put o.dst undef) w') : wpOp P ops Q i K a w := by
  unfold wpOp
  rw [ho]
  simp only [Region.wanted, hg, if_true]
  left
  unfold Oper.wp
  rw [hrun]
  exact hK
end
end Go.Proofs.YtoigpackhninoaaGreatDoor

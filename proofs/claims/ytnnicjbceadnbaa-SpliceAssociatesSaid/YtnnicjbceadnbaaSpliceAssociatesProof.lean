/- 'SpliceAssociates': for every input the law returns true, and each argument reads afterwards as it read before. No condition besides. -/
import Derived.Test.YtnnicjbceadnbaaLawG
import Derived.Test.YtnnicjbceadnbaaOpenArr
import Derived.ProofKit
import Derived.OpenShut
import Derived.JoinedCond
import Derived.Lib.SmallJoins
namespace Go.Proofs.Ytnnicjbceadnbaa.spliceAssociates
open Go.ChangeShapes Go.WideShapes Go.ChangeAt Go.RowKit Go.ChangeMaps
set_option linter.unusedVariables false
theorem own : ownKnob Try.prog.godebug = none := by kernel_rfl
theorem laidOut : laidOutB Try.prog = true := by kernel_rfl

set_option maxRecDepth 100000 in
theorem contract (H : Type) (enc : TypeId × Value → H) (W : World) (base : Nat) (args : Array Value) (ds gs : List (DataW H)) (before : List MemPlace)
    (hval : ∀ (j : Nat) t v, Try.f9.params[j]? = some t → args[j]? = some v → Value.okWide Try.prog W .any base t v)
    (hW : DataW.Whole enc Try.prog Try.f9.params.toList Rows.spliceAssociatesSpec.vars false W args.toList ds gs before) :
    Calls Try.prog 9 args W fun e W' => ∃ v, e = .returned v ∧ Rows.spliceAssociatesSpec.post enc Try.prog Try.f9 false true false false W args v W' := by
  have hW' := hW
  obtain ⟨p, q, hA0, hV, rfl, hfz, hnd⟩ := hW
  have hA : DataW.TrodAll enc Try.prog W 0 (fun _ => true) true Try.f9.params.toList args.toList ds p := hA0
  rw [Try.params9] at hA hval
  obtain ⟨v0, vs0, d0, ds0, p0, q0, hargs, rfl, rfl, h0, r0⟩ := trodAll_cons hA
  obtain ⟨v1, vs1, d1, ds1, p1, q1, rfl, rfl, rfl, h1, r1⟩ := trodAll_cons r0
  obtain ⟨rfl, rfl, rfl⟩ := trodAll_nil r1
  obtain rfl : args = #[v0, v1] := by cases args; simp_all
  obtain ⟨rfl, rfl⟩ := trodVars_none hV
  clear hA0
  have hlt : ∀ x, x ∈ p0 ++ p1 → x.block < W.heap.size := fun x hx => hW'.lt x (by simpa using hx)
  have k0 := h0
  have k1 := h1
  obtain ⟨s0, rfl, ws0⟩ := open_str (hval 0 9 v0 rfl rfl) h0
  obtain ⟨A1, B1, C1, p1, q1, r1, la1, lb1, lc1, rfl, fa1, fb1, fc1⟩ := open_three (hval 1 50 v1 rfl rfl) h1
  refine (law_associates s0 la1 lb1 lc1 A1 B1 C1 p1 q1 r1 ws0 fa1.2 fb1.2 fc1.2 W fa1.1 fb1.1 fc1.1).mono fun e W' ⟨he, hb⟩ => ?_
  subst he
  exact ⟨_, rfl, post_of_below (pa := _) (pv := []) hW' (fun _ _ _ => (trodAll_cons_mk (shut_bool Try.underlying4 _) trodAll_mk0)) (fun sp hsp => (trodAll_cons_mk (WideElems.Trod_stays laidOut (by kernel_rfl) (of_decide_eq_true (by kernel_rfl)) k0 (fun x hx => hb.same (hlt x (by first | exact absurd hx List.not_mem_nil | simp [hx]))) (fun x hx => hsp x (by first | exact absurd hx List.not_mem_nil | simp [hx]))) (trodAll_cons_mk (WideElems.Trod_stays laidOut (by kernel_rfl) (of_decide_eq_true (by kernel_rfl)) k1 (fun x hx => hb.same (hlt x (by first | exact absurd hx List.not_mem_nil | simp [hx]))) (fun x hx => hsp x (by first | exact absurd hx List.not_mem_nil | simp [hx]))) trodAll_mk0))) (fun _ _ => rfl) (by simp) hb (ok_one (by kernel_rfl) rfl (okWide_bool_mk Try.underlying4 _))⟩
set_option maxRecDepth 100000 in
theorem lifted (os : Os) (started : os.Started) (H : Type) (enc : TypeId × Value → H) :
    ReturnsInHanded {} Try.checked os 9 .any (Rows.spliceAssociatesSpec.pre6 enc Try.prog Try.f9 Rows.spliceAssociatesRow.domain false) (Rows.spliceAssociatesSpec.post enc Try.prog Try.f9 false true false false) := by
  refine returnsInHanded_of_change (C := Try.checked) own started (by kernel_rfl) Try.func9
    (ChangeSpec.witness6 (enc := enc) (C := Try.checked) false ⟨#[], #[.string ByteArray.empty, .agg #[.slice none 0 0, .slice none 0 0, .slice none 0 0]], []⟩ 8 (by kernel_rfl) (by kernel_rfl) (by kernel_rfl) (by kernel_rfl)) ?_
  intro W base args ds gs before hval hW _ _
  exact contract H enc W base args ds gs before hval hW
theorem over : Rows.spliceAssociatesRow.holds Try.pinned (OpenSpec.ofChange Rows.spliceAssociatesSpec) :=
  OpenClaim.holds_of_wide 9 Try.f9 rfl rfl rfl rfl rfl rfl rfl ⟨rfl, rfl, rfl, rfl, rfl⟩ rfl rfl rfl rfl rfl (by kernel_rfl) Try.func9 (by kernel_rfl)
    (of_decide_eq_true (by kernel_rfl)) (by unfold Func.isWrapper; first | (rw [if_pos (by decide +kernel)]; kernel_rfl) | (rw [if_neg (by decide +kernel)]; exact ⟨rfl, rfl⟩))
    (fun os started H enc _ => lifted os started H enc)
/-- The statement. -/
theorem proved : Rows.SpliceAssociatesSaid := over
#print axioms proved
end Go.Proofs.Ytnnicjbceadnbaa.spliceAssociates

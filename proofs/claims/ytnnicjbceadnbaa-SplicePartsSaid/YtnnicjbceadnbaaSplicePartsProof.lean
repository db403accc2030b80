/- 'SpliceParts': for every input the law returns true, and each argument reads afterwards as it read before. No condition besides. -/
import Derived.Test.YtnnicjbceadnbaaLawE
import Derived.Test.YtnnicjbceadnbaaOpen
import Derived.ProofKit
import Derived.OpenShut
import Derived.JoinedCond
import Derived.Lib.SmallJoins
namespace Go.Proofs.Ytnnicjbceadnbaa.spliceParts
open Go.ChangeShapes Go.WideShapes Go.ChangeAt Go.RowKit Go.ChangeMaps
set_option linter.unusedVariables false
theorem own : ownKnob Try.prog.godebug = none := by kernel_rfl
theorem laidOut : laidOutB Try.prog = true := by kernel_rfl

set_option maxRecDepth 100000 in
theorem contract (H : Type) (enc : TypeId × Value → H) (W : World) (base : Nat) (args : Array Value) (ds gs : List (DataW H)) (before : List MemPlace)
    (hval : ∀ (j : Nat) t v, Try.f7.params[j]? = some t → args[j]? = some v → Value.okWide Try.prog W .any base t v)
    (hW : DataW.Whole enc Try.prog Try.f7.params.toList Rows.splicePartsSpec.vars false W args.toList ds gs before) :
    Calls Try.prog 7 args W fun e W' => ∃ v, e = .returned v ∧ Rows.splicePartsSpec.post enc Try.prog Try.f7 false true false false W args v W' := by
  have hW' := hW
  obtain ⟨p, q, hA0, hV, rfl, hfz, hnd⟩ := hW
  have hA : DataW.TrodAll enc Try.prog W 0 (fun _ => true) true Try.f7.params.toList args.toList ds p := hA0
  rw [Try.params7] at hA hval
  obtain ⟨v0, vs0, d0, ds0, p0, q0, hargs, rfl, rfl, h0, r0⟩ := trodAll_cons hA
  obtain ⟨v1, vs1, d1, ds1, p1, q1, rfl, rfl, rfl, h1, r1⟩ := trodAll_cons r0
  obtain ⟨v2, vs2, d2, ds2, p2, q2, rfl, rfl, rfl, h2, r2⟩ := trodAll_cons r1
  obtain ⟨rfl, rfl, rfl⟩ := trodAll_nil r2
  obtain rfl : args = #[v0, v1, v2] := by cases args; simp_all
  obtain ⟨rfl, rfl⟩ := trodVars_none hV
  clear hA0
  have hlt : ∀ x, x ∈ p0 ++ p1 ++ p2 → x.block < W.heap.size := fun x hx => hW'.lt x (by simpa using hx)
  have k0 := h0
  have k1 := h1
  have k2 := h2
  obtain ⟨s0, rfl, ws0⟩ := open_str (hval 0 9 v0 rfl rfl) h0
  obtain ⟨A1, c1, l1, rfl, re1, fe1⟩ := open_eds (hval 1 22 v1 rfl rfl) h1
  obtain ⟨A2, c2, l2, rfl, re2, fe2⟩ := open_eds (hval 2 22 v2 rfl rfl) h2
  refine (law_parts s0 l1 l2 A1 A2 c1 c2 ws0 fe1 fe2 W re1 re2).mono fun e W' ⟨he, hb⟩ => ?_
  subst he
  exact ⟨_, rfl, post_of_below (pa := _) (pv := []) hW' (fun _ _ _ => (trodAll_cons_mk (shut_bool Try.underlying4 _) trodAll_mk0)) (fun sp hsp => (trodAll_cons_mk (WideElems.Trod_stays laidOut (by kernel_rfl) (of_decide_eq_true (by kernel_rfl)) k0 (fun x hx => hb.same (hlt x (by first | exact absurd hx List.not_mem_nil | simp [hx]))) (fun x hx => hsp x (by first | exact absurd hx List.not_mem_nil | simp [hx]))) (trodAll_cons_mk (WideElems.Trod_stays laidOut (by kernel_rfl) (of_decide_eq_true (by kernel_rfl)) k1 (fun x hx => hb.same (hlt x (by first | exact absurd hx List.not_mem_nil | simp [hx]))) (fun x hx => hsp x (by first | exact absurd hx List.not_mem_nil | simp [hx]))) (trodAll_cons_mk (WideElems.Trod_stays laidOut (by kernel_rfl) (of_decide_eq_true (by kernel_rfl)) k2 (fun x hx => hb.same (hlt x (by first | exact absurd hx List.not_mem_nil | simp [hx]))) (fun x hx => hsp x (by first | exact absurd hx List.not_mem_nil | simp [hx]))) trodAll_mk0)))) (fun _ _ => rfl) (by simp) hb (ok_one (by kernel_rfl) rfl (okWide_bool_mk Try.underlying4 _))⟩
set_option maxRecDepth 100000 in
theorem lifted (os : Os) (started : os.Started) (H : Type) (enc : TypeId × Value → H) :
    ReturnsInHanded {} Try.checked os 7 .any (Rows.splicePartsSpec.pre6 enc Try.prog Try.f7 Rows.splicePartsRow.domain false) (Rows.splicePartsSpec.post enc Try.prog Try.f7 false true false false) := by
  refine returnsInHanded_of_change (C := Try.checked) own started (by kernel_rfl) Try.func7
    (ChangeSpec.witness6 (enc := enc) (C := Try.checked) false ⟨#[], #[.string ByteArray.empty, .slice none 0 0, .slice none 0 0], []⟩ 8 (by kernel_rfl) (by kernel_rfl) (by kernel_rfl) (by kernel_rfl)) ?_
  intro W base args ds gs before hval hW _ _
  exact contract H enc W base args ds gs before hval hW
theorem over : Rows.splicePartsRow.holds Try.pinned (OpenSpec.ofChange Rows.splicePartsSpec) :=
  OpenClaim.holds_of_wide 7 Try.f7 rfl rfl rfl rfl rfl rfl rfl ⟨rfl, rfl, rfl, rfl, rfl⟩ rfl rfl rfl rfl rfl (by kernel_rfl) Try.func7 (by kernel_rfl)
    (of_decide_eq_true (by kernel_rfl)) (by unfold Func.isWrapper; first | (rw [if_pos (by decide +kernel)]; kernel_rfl) | (rw [if_neg (by decide +kernel)]; exact ⟨rfl, rfl⟩))
    (fun os started H enc _ => lifted os started H enc)
/-- The statement. -/
theorem proved : Rows.SplicePartsSaid := over
#print axioms proved
end Go.Proofs.Ytnnicjbceadnbaa.spliceParts

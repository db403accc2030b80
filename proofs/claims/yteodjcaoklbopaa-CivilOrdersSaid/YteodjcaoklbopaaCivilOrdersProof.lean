/- 'CivilOrders': for every input the law returns true, and each argument reads afterwards as it read before. No condition besides. -/
import Derived.Test.YteodjcaoklbopaaLaws2
import Derived.Test.YteodjcaoklbopaaPost
import Derived.ProofKit
import Derived.OpenShut
import Derived.JoinedCond
import Derived.Lib.SmallJoins
namespace Go.Proofs.Yteodjcaoklbopaa.civilOrders
open Go.ChangeShapes Go.WideShapes Go.ChangeAt Go.RowKit Go.ChangeMaps
set_option linter.unusedVariables false
theorem own : ownKnob Try.prog.godebug = none := by kernel_rfl
theorem laidOut : laidOutB Try.prog = true := by kernel_rfl
theorem open_arr3 {H : Type} {enc : TypeId × Value → H} {W : World} {r : Reach} {b0 base : Nat} {sp : Nat → Bool} {hd : Bool} {v : Value} {d : DataW H} {p : List MemPlace}
    (hv : Value.okWide Try.prog W r b0 35 v) (h : DataW.Trod enc Try.prog W base sp hd 35 v d p) :
    ∃ (a b c : Int) (y0 y1 y2 : DataW H), v = .agg #[.int .i16 a, .int .i16 b, .int .i16 c] ∧ d = .agg [y0, y1, y2] ∧ p = [] ∧ (Lit.int .i16 a).wf = true ∧ (Lit.int .i16 b).wf = true ∧ (Lit.int .i16 c).wf = true := by
  have hu : Try.prog.underlying 35 = some (.array 3 34) := Try.underlying35
  unfold Value.okWide at hv
  rw [hu] at hv
  obtain ⟨cs, rfl, hsz, _⟩ := hv
  have hC : Try.prog.cellsOf 35 = 3 := by kernel_rfl
  obtain ⟨c0, c1, c2, rfl⟩ := Joins.array3 (hsz.trans hC)
  obtain ⟨fuel, hf⟩ := h
  have hC1 : Try.prog.cellsOf 34 = 1 := by kernel_rfl
  obtain ⟨y0, y1, y2, n, hx, h0, h1, h2⟩ := trod_array3 hu hC1 hf
  obtain ⟨a, e0, rfl, wa⟩ := DataW.trod_int Try.underlying34 h0
  obtain ⟨b, e1, rfl, wb⟩ := DataW.trod_int Try.underlying34 h1
  obtain ⟨c, e2, rfl, wc⟩ := DataW.trod_int Try.underlying34 h2
  simp at e0 e1 e2 hx
  obtain ⟨rfl, rfl⟩ := hx
  subst e0 e1 e2
  exact ⟨a, b, c, _, _, _, rfl, rfl, rfl, wa, wb, wc⟩
set_option maxRecDepth 100000 in
theorem contract (H : Type) (enc : TypeId × Value → H) (W : World) (base : Nat) (args : Array Value) (ds gs : List (DataW H)) (before : List MemPlace)
    (hval : ∀ (j : Nat) t v, Try.f7.params[j]? = some t → args[j]? = some v → Value.okWide Try.prog W .any base t v)
    (hW : DataW.Whole enc Try.prog Try.f7.params.toList Rows.civilOrdersSpec.vars false W args.toList ds gs before) :
    Calls Try.prog 7 args W fun e W' => ∃ v, e = .returned v ∧ Rows.civilOrdersSpec.post enc Try.prog Try.f7 false true false false W args v W' := by
  have hW' := hW
  obtain ⟨p, q, hA0, hV, rfl, hfz, hnd⟩ := hW
  have hA : DataW.TrodAll enc Try.prog W 0 (fun _ => true) true Try.f7.params.toList args.toList ds p := hA0
  rw [Try.params7] at hA hval
  obtain ⟨v0, vs0, d0, ds0, p0, q0, hargs, rfl, rfl, h0, r0⟩ := trodAll_cons hA
  obtain ⟨v1, vs1, d1, ds1, p1, q1, rfl, rfl, rfl, h1, r1⟩ := trodAll_cons r0
  obtain ⟨rfl, rfl, rfl⟩ := trodAll_nil r1
  obtain rfl : args = #[v0, v1] := by cases args; simp_all
  obtain ⟨rfl, rfl⟩ := trodVars_none hV
  clear hA0
  have hlt : ∀ x, x ∈ p0 ++ p1 → x.block < W.heap.size := fun x hx => hW'.lt x (by simpa using hx)
  have k0 := h0
  have k1 := h1
  obtain ⟨c0, c0', c0'', y0, y0', y0'', rfl, rfl, rfl, w0, w0', w0''⟩ := open_arr3 (hval 0 35 v0 rfl rfl) h0
  obtain ⟨c1, c1', c1'', y1, y1', y1'', rfl, rfl, rfl, w1, w1', w1''⟩ := open_arr3 (hval 1 35 v1 rfl rfl) h1
  refine (law_orders c0 c0' c0'' c1 c1' c1'' w0 w0' w0'' w1 w1' w1'' W).mono fun e W' ⟨he, hb⟩ => ?_
  subst he
  exact ⟨_, rfl, post_of_below (pa := _) (pv := []) hW' (fun _ _ _ => (trodAll_cons_mk (shut_bool Try.underlying4 _) trodAll_mk0)) (fun sp hsp => (trodAll_cons_mk (WideElems.Trod_stays laidOut (by kernel_rfl) (of_decide_eq_true (by kernel_rfl)) k0 (fun x hx => hb.same (hlt x (by simp [hx]))) (fun x hx => hsp x (by simp [hx]))) (trodAll_cons_mk (WideElems.Trod_stays laidOut (by kernel_rfl) (of_decide_eq_true (by kernel_rfl)) k1 (fun x hx => hb.same (hlt x (by simp [hx]))) (fun x hx => hsp x (by simp [hx]))) trodAll_mk0))) (fun _ _ => rfl) (by simp) hb (ok_one (by kernel_rfl) rfl (okWide_bool_mk Try.underlying4 _))⟩
set_option maxRecDepth 100000 in
theorem lifted (os : Os) (started : os.Started) (H : Type) (enc : TypeId × Value → H) :
    ReturnsInHanded {} Try.checked os 7 .any (Rows.civilOrdersSpec.pre6 enc Try.prog Try.f7 Rows.civilOrdersRow.domain false) (Rows.civilOrdersSpec.post enc Try.prog Try.f7 false true false false) := by
  refine returnsInHanded_of_change (C := Try.checked) own started (by kernel_rfl) Try.func7
    (ChangeSpec.witness6 (enc := enc) (C := Try.checked) false ⟨#[], #[.agg #[.int .i16 0, .int .i16 0, .int .i16 0], .agg #[.int .i16 0, .int .i16 0, .int .i16 0]], []⟩ 8 (by kernel_rfl) (by kernel_rfl) (by kernel_rfl) (by kernel_rfl)) ?_
  intro W base args ds gs before hval hW _ _
  exact contract H enc W base args ds gs before hval hW
theorem over : Rows.civilOrdersRow.holds Try.pinned (OpenSpec.ofChange Rows.civilOrdersSpec) :=
  OpenClaim.holds_of_wide 7 Try.f7 rfl rfl rfl rfl rfl rfl rfl ⟨rfl, rfl, rfl, rfl, rfl⟩ rfl rfl rfl rfl rfl (by kernel_rfl) Try.func7 (by kernel_rfl)
    (of_decide_eq_true (by kernel_rfl)) (by unfold Func.isWrapper; first | (rw [if_pos (by decide +kernel)]; kernel_rfl) | (rw [if_neg (by decide +kernel)]; exact ⟨rfl, rfl⟩))
    (fun os started H enc _ => lifted os started H enc)
/-- The statement. -/
theorem proved : Rows.CivilOrdersSaid := over
#print axioms proved
end Go.Proofs.Yteodjcaoklbopaa.civilOrders

/- 'GraphLimits': for every input the law returns true, and each argument reads afterwards as it read before. No condition besides: the tables of the library that are listed are tied to the program's text by the card. -/
import Derived.Test.YtoigpackhninoaaGreatDoorGrLimits
import Derived.Test.YtoigpackhninoaaGreatDoorGrLaid
import Derived.Test.YtoigpackhninoaaGreatDoorCards
import Derived.Test.YtoigpackhninoaaGreatDoorTie
import Derived.SevenTiedAt
import Derived.OpenShut
namespace Go.Proofs.YtoigpackhninoaaGreatDoor.graphLimits
open Go.Shelf Go.Lib Go.ChangeShapes Go.WideShapes Go.ChangeAt Go.RowKit
open Go.ChangeMaps
theorem nat_of_u16 {a : Int} (h : (Lit.int .u16 a).wf = true) : ∃ b : Nat, a = (b : Int) ∧ b < 65536 := by
  have h0 : 0 ≤ a ∧ a < 65536 := by
    have : (decide (IntKind.u16.min ≤ a) && decide (a ≤ IntKind.u16.max)) = true := h
    simp [IntKind.min, IntKind.max, IntKind.signed, IntKind.bits] at this
    omega
  exact ⟨a.toNat, by omega, by omega⟩
theorem nat_of_u8 {a : Int} (h : (Lit.int .u8 a).wf = true) : ∃ b : Nat, a = (b : Int) ∧ b < 256 := by
  have h0 : 0 ≤ a ∧ a < 256 := by
    have : (decide (IntKind.u8.min ≤ a) && decide (a ≤ IntKind.u8.max)) = true := h
    simp [IntKind.min, IntKind.max, IntKind.signed, IntKind.bits] at this
    omega
  exact ⟨a.toNat, by omega, by omega⟩
theorem witness_row (os : Os) {H : Type} (enc : TypeId × Value → H) :
    (OpenSpec.ofChange Rows.graphLimitsSpec).preRow enc Tryz.prog Tryz.f7 Rows.graphLimitsRow.domain false Rows.graphLimitsRow.laid ((laidWorld os).forCall (fun _ _ => 0) ⟨#[], #[.int .u16 0, .int .u8 0, .bool false], []⟩).memory #[.int .u16 0, .int .u8 0, .bool false] := by
  have hw : (DataW.whole enc Tryz.prog ((laidWorld os).forCall (fun _ _ => 0) ⟨#[], #[.int .u16 0, .int .u8 0, .bool false], []⟩).memory Tryz.f7.params.toList (OpenSpec.ofChange Rows.graphLimitsSpec).vars false #[Value.int .u16 0, .int .u8 0, .bool false].toList 8).map (fun x => (x.1, x.2.1)) =
      some ([.lit (.int .u16 0), .lit (.int .u8 0), .lit (.bool false)], []) := by kernel_rfl
  obtain ⟨⟨x1, x2, x3⟩, hx, hx1⟩ := Option.map_eq_some_iff.1 hw
  simp only [Prod.mk.injEq] at hx1
  obtain ⟨rfl, rfl⟩ := hx1
  exact OpenSpec.preRow_of_cond 8 hx (by kernel_rfl) (fun k hk => by cases hk) (by kernel_rfl) (laid_met os _)
theorem witness_ok (os : Os) : Input.okWideB Tryz.prog ((laidWorld os).forCall (fun _ _ => 0) ⟨#[], #[.int .u16 0, .int .u8 0, .bool false], []⟩) 7 ⟨#[], #[.int .u16 0, .int .u8 0, .bool false], []⟩ = true := by kernel_rfl
set_option maxRecDepth 100000 in
set_option maxHeartbeats 2000000 in
theorem lifted (os : Os) (started : os.Started) (H : Type) (enc : TypeId × Value → H) (F : Stop.Interp) :
    ReturnsInHanded {} Tryz.checked os 7 .any ((OpenSpec.ofChange Rows.graphLimitsSpec).preRow enc Tryz.prog Tryz.f7 Rows.graphLimitsRow.domain false Rows.graphLimitsRow.laid) (((OpenSpec.ofChange Rows.graphLimitsSpec).at F).post enc Tryz.prog Tryz.f7 false true false false) := by
  refine returnsInHanded_of_row (C := Tryz.checked) (s := OpenSpec.ofChange Rows.graphLimitsSpec) own started (by kernel_rfl) Tryz.func7
    ⟨laidWorld os, fun _ _ => 0, ⟨#[], #[.int .u16 0, .int .u8 0, .bool false], []⟩, World.laidAll_os _ _ _, World.shaped_of_ZipB (by kernel_rfl) (by kernel_rfl), (Input.okWide_of_okWideB (base := 0) (witness_ok os)).1, (Input.okWide_of_okWideB (witness_ok os)).2, witness_row os enc, by
      simp only [Assume.holds]
      exact ⟨by simp, by simp, fun _ => Modest.zero, by simp, by simp⟩⟩ ?_
  intro W base args ds gs before hval0 hW _ _ _ hL _ _
  have hval : ∀ (j : Nat) t v, Tryz.f7.params[j]? = some t → args[j]? = some v → Value.okWide Tryz.prog W .any base t v := hval0
  have hW' := hW
  obtain ⟨p, q, hA0, hV0, rfl, _, _⟩ := hW
  have hA : DataW.TrodAll enc Tryz.prog W 0 (fun _ => true) true Tryz.f7.params.toList args.toList ds p := hA0
  rw [Tryz.params7] at hA hval
  obtain ⟨v0, vs0, d0, ds0, p0, q0, hargs, rfl, rfl, h0, r0⟩ := trodAll_cons hA
  obtain ⟨v1, vs1, d1, ds1, p1, q1, rfl, rfl, rfl, h1, r1⟩ := trodAll_cons r0
  obtain ⟨v2, vs2, d2, ds2, p2, q2, rfl, rfl, rfl, h2, r2⟩ := trodAll_cons r1
  obtain ⟨rfl, rfl, rfl⟩ := trodAll_nil r2
  obtain rfl : args = #[v0, v1, v2] := by cases args; simp_all
  obtain ⟨rfl, rfl⟩ := trodVars_none hV0
  obtain ⟨a0, rfl, rfl, rfl, w0⟩ := open_int Tryz.underlying44 (hval 0 44 v0 rfl rfl) h0
  obtain ⟨a1, rfl, rfl, rfl, w1⟩ := open_int Tryz.underlying5 (hval 1 5 v1 rfl rfl) h1
  obtain ⟨b, rfl, rfl, rfl⟩ := open_bool Tryz.underlying4 (hval 2 4 v2 rfl rfl) h2
  clear hA0 hV0 hval0
  have hT : UT W := ut_of_laid hL
  obtain ⟨x0, rfl, hx0⟩ := nat_of_u16 w0
  obtain ⟨x1, rfl, hx1⟩ := nat_of_u8 w1
  refine (limits_any x0 x1 b hx0 hx1 W hT).mono ?_
  rintro e W' ⟨rfl, bel⟩
  have e1 : ((OpenSpec.ofChange Rows.graphLimitsSpec).at F).fn H ([.lit (.int .u16 x0), .lit (.int .u8 x1), .lit (.bool b)] ++ []) = { results := [.lit (.bool true)], args := [.lit (.int .u16 x0), .lit (.int .u8 x1), .lit (.bool b)] } := rfl
  refine ⟨_, rfl, _, _, _, [], [], [], hW', ?_, ?_, ?_, bel.frame _, fun h => by cases h⟩
  · rw [e1]; exact trodAll_mk1 (shut_bool Tryz.underlying4 _)
  · rw [e1]; exact trodAll_mk3 (shut_int Tryz.underlying44 w0) (shut_int Tryz.underlying5 w1) (shut_bool Tryz.underlying4 _)
  · rw [e1]; rfl
theorem holds : Rows.GraphLimitsSaid :=
  OpenClaim.holds_of_cond 7 Tryz.f7 rfl rfl rfl rfl rfl rfl rfl ⟨rfl, rfl, rfl, rfl, rfl⟩ rfl rfl rfl rfl rfl (by kernel_rfl) Tryz.func7 (by kernel_rfl)
    (of_decide_eq_true (by kernel_rfl)) (by unfold Func.isWrapper; rw [if_neg (of_decide_eq_false (by kernel_rfl))]; exact ⟨rfl, rfl⟩)
    (fun os started H enc _ F0 => by rw [OpenClaim.pre_eq_preRow]; exact lifted os started H enc F0)
theorem proved : Rows.GraphLimitsCardSaid :=
  Claim7.holds_tied_plain_at .later [] [.data, .data, .data, .data, .sentinel, .sentinel, .pinned] true (true, "d3b1862469b883ffbb3bb63e268bd828b90ded3c43e025a915fe24e2cec11063") true
    holds (fun _ h => by cases h) (by kernel_rfl) (fun _ h => by cases h) graphLimits_row_tie rfl ⟨rfl, rfl⟩ (by kernel_rfl) rfl
    (fun f fn hf hfn => by
      obtain rfl : f = 7 := Option.some.inj ((show Tryz.prog.funcNamed "rosetta/rosettalaw10.GraphLimits" = some 7 by kernel_rfl).symm.trans hf) |>.symm
      obtain rfl : fn = Tryz.f7 := (Option.some.inj (Tryz.func7.symm.trans hfn)).symm
      exact ⟨by kernel_rfl, fun j t ht => by
        rw [Tryz.params7] at ht
        have hm : t ∈ [44, 5, 4] := by simpa using Array.mem_of_getElem? ht
        have hall : ([44, 5, 4].all fun u => !Tryz.prog.wantsStandIn u) = true := by kernel_rfl
        exact (show Tryz.prog.wantsStandIn t = false by simpa using List.all_eq_true.1 hall t hm)⟩)
    (by kernel_rfl)
end Go.Proofs.YtoigpackhninoaaGreatDoor.graphLimits

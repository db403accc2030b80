/- 'IniQuotes': for every input the law returns true, and each argument reads afterwards as it read before. No condition besides: the two tables of the library that are listed are tied to the program's text by the card. -/
import Derived.Test.YtegdemnfjmaicaaDoorWalk33
import Derived.Test.YtegdemnfjmaicaaDoorLaid
import Derived.Test.YtegdemnfjmaicaaDoorCards
import Derived.Test.YtegdemnfjmaicaaDoorTie
import Derived.SevenTiedAt
import Derived.Test.YtegdemnfjmaicaaDoorOpenP
import Derived.OpenShut
import Derived.WideKeyArgs
namespace Go.Proofs.YtegdemnfjmaicaaDoor.iniQuotes
open Go.Shelf Go.Lib Go.ChangeShapes Go.WideShapes Go.ChangeAt Go.RowKit
open Go.ChangeMaps
theorem laidOut : laidOutB Tryd.prog = true := by kernel_rfl
theorem witness_row (os : Os) {H : Type} (enc : TypeId × Value → H) :
    (OpenSpec.ofChange Rows.iniQuotesSpec).preRow enc Tryd.prog Tryd.f7 Rows.iniQuotesRow.domain false Rows.iniQuotesRow.laid ((laidWorld os).forCall (fun _ _ => 0) ⟨#[], #[.string ⟨#[]⟩, .slice none 0 0], []⟩).memory #[.string ⟨#[]⟩, .slice none 0 0] := by
  have hw : (DataW.whole enc Tryd.prog ((laidWorld os).forCall (fun _ _ => 0) ⟨#[], #[.string ⟨#[]⟩, .slice none 0 0], []⟩).memory Tryd.f7.params.toList (OpenSpec.ofChange Rows.iniQuotesSpec).vars false #[Value.string ⟨#[]⟩, .slice none 0 0].toList 8).map (fun x => (x.1, x.2.1)) =
      some ([.lit (.string []), .nil], []) := by kernel_rfl
  obtain ⟨⟨x1, x2, x3⟩, hx, hx1⟩ := Option.map_eq_some_iff.1 hw
  simp only [Prod.mk.injEq] at hx1
  obtain ⟨rfl, rfl⟩ := hx1
  exact OpenSpec.preRow_of_cond 8 hx (by kernel_rfl) (fun k hk => by cases hk) (by kernel_rfl) (laid_met os _)
set_option maxRecDepth 100000 in
set_option maxHeartbeats 2000000 in
theorem lifted (os : Os) (started : os.Started) (H : Type) (enc : TypeId × Value → H) (F : Stop.Interp) :
    ReturnsInHanded {} Tryd.checked os 7 .any ((OpenSpec.ofChange Rows.iniQuotesSpec).preRow enc Tryd.prog Tryd.f7 Rows.iniQuotesRow.domain false Rows.iniQuotesRow.laid) (((OpenSpec.ofChange Rows.iniQuotesSpec).at F).post enc Tryd.prog Tryd.f7 false true false false) := by
  refine returnsInHanded_of_row (C := Tryd.checked) (s := OpenSpec.ofChange Rows.iniQuotesSpec) own started (by kernel_rfl) Tryd.func7
    (witness_row_atRef (enc := enc) (C := Tryd.checked) false (laidWorld os) #[.string ⟨#[]⟩, .slice none 0 0] rfl (by kernel_rfl) (by kernel_rfl) (by kernel_rfl) (witness_row os enc)) ?_
  intro W base args ds gs before hval0 hW _ _ _ hL _ _
  have hval : ∀ (j : Nat) t v, Tryd.f7.params[j]? = some t → args[j]? = some v → Value.okWide Tryd.prog W .any base t v := hval0
  have hW' := hW
  obtain ⟨p, q, hA0, hV0, rfl, _, _⟩ := hW
  have hA : DataW.TrodAll enc Tryd.prog W 0 (fun _ => true) true Tryd.f7.params.toList args.toList ds p := hA0
  rw [Tryd.params7] at hA hval
  obtain ⟨v0, vs0, d0, ds0, p0, q0, hargs, rfl, rfl, h0, r0⟩ := trodAll_cons hA
  obtain ⟨v1, vs1, d1, ds1, p1, q1, rfl, rfl, rfl, h1, r1⟩ := trodAll_cons r0
  obtain ⟨rfl, rfl, rfl⟩ := trodAll_nil r1
  obtain rfl : args = #[v0, v1] := by cases args; simp_all
  obtain ⟨rfl, rfl⟩ := trodVars_none hV0
  obtain ⟨s0, rfl, rfl, rfl, w0⟩ := open_string Tryd.underlying9 (hval 0 9 v0 rfl rfl) h0
  obtain ⟨A, c, L, rfl, hrow⟩ := open_pairs (hval 1 41 v1 rfl rfl) h1
  have hlt : ∀ x, x ∈ p1 → x.block < W.heap.size := fun x hx => hW'.lt x (by simpa using hx)
  clear hA0 hV0 hval0
  have hT : Lib.Utf8Tabs 0 1 W := tabs_of_laid hL
  have hw2 : 2 ≤ W.heap.size := heap_two hT
  obtain ⟨x0, rfl⟩ : ∃ x : Ini.Str, s0 = ⟨x.toArray⟩ := ⟨s0.data.toList, rfl⟩
  refine (quotes_any x0 L A c W hT hw2 hrow).mono ?_
  rintro e W' ⟨rfl, bel⟩
  have e1 : ((OpenSpec.ofChange Rows.iniQuotesSpec).at F).fn H ([.lit (.string x0), d1] ++ []) = { results := [.lit (.bool true)], args := [.lit (.string x0), d1] } := rfl
  have stay : ∀ sp' : Nat → Bool, (∀ x, x ∈ p1 → sp' x.block = true) → DataW.Trod enc Tryd.prog W' 0 sp' true 41 (.slice A L.length c) d1 p1 := fun sp' hs =>
    WideElems.Trod_stays laidOut (by kernel_rfl) (of_decide_eq_true (by kernel_rfl)) h1 (fun x hx => bel.same (hlt x hx)) hs
  refine ⟨_, rfl, _, _, _, [], [] ++ (p1 ++ []), [], hW', ?_, ?_, ?_, World.keptBut_mono (fun x hx => ⟨hx, ?_⟩) (bel.frame _), fun h => by cases h⟩
  · rw [e1]; exact trodAll_mk1 (shut_bool Tryd.underlying4 _)
  · rw [e1]
    exact trodAll_cons_mk (shut_string Tryd.underlying9 w0) (trodAll_cons_mk (stay (fun b => decide (b < W.heap.size)) (fun x hx => by simpa using hlt x hx)) trodAll_mk0)
  · rw [e1]; rfl
  · simpa using hx
theorem holds : Rows.IniQuotesSaid :=
  OpenClaim.holds_of_cond 7 Tryd.f7 rfl rfl rfl rfl rfl rfl rfl ⟨rfl, rfl, rfl, rfl, rfl⟩ rfl rfl rfl rfl rfl (by kernel_rfl) Tryd.func7 (by kernel_rfl)
    (of_decide_eq_true (by kernel_rfl)) (by unfold Func.isWrapper; rw [if_neg (of_decide_eq_false (by kernel_rfl))]; exact ⟨rfl, rfl⟩)
    (fun os started H enc _ F0 => by rw [OpenClaim.pre_eq_preRow]; exact lifted os started H enc F0)
theorem proved : Rows.IniQuotesCardSaid :=
  Claim7.holds_tied_plain_at .later [] [.data, .pinned] true (true, "ca9384c7d664c250dbcbc66e83b4d0c8ac99a7fbcc61dd85c89c2cc630d43f77") false
    holds (fun _ h => by cases h) (by kernel_rfl) (fun _ h => by cases h) iniQuotes_row_tie rfl ⟨rfl, rfl⟩ (by kernel_rfl) rfl
    (fun f fn hf hfn => by
      obtain rfl : f = 7 := Option.some.inj ((show Tryd.prog.funcNamed "rosetta/rosettalaw30.IniQuotes" = some 7 by kernel_rfl).symm.trans hf) |>.symm
      obtain rfl : fn = Tryd.f7 := (Option.some.inj (Tryd.func7.symm.trans hfn)).symm
      exact ⟨by kernel_rfl, fun j t ht => by
        rw [Tryd.params7] at ht
        have hm : t ∈ [9, 41] := by simpa using Array.mem_of_getElem? ht
        have hall : ([9, 41].all fun u => !Tryd.prog.wantsStandIn u) = true := by kernel_rfl
        exact (show Tryd.prog.wantsStandIn t = false by simpa using List.all_eq_true.1 hall t hm)⟩)
    (by kernel_rfl)
end Go.Proofs.YtegdemnfjmaicaaDoor.iniQuotes

import Derived.Test.YtoigpackhninoaaGreatDoorGrLawD
import Derived.Test.YtoigpackhninoaaGreatDoorCards
import Derived.Test.YtoigpackhninoaaGreatDoorTie
/- 'GraphDepths': for every input the law returns true, and each argument reads afterwards as it read before. No condition besides: the tables of the library that are listed are tied to the program's text by the card. -/
namespace Go.Proofs.YtoigpackhninoaaGreatDoor.graphDepths
open _root_.Go.Proofs.Tryz
set_option maxRecDepth 100000
set_option maxHeartbeats 16000000
open Go.Shelf Go.Lib Go.ChangeShapes Go.WideShapes Go.ChangeAt Go.RowKit
open Go.ChangeMaps
theorem laidOut:laidOutB prog=true:=by kernel_rfl
theorem witness_row (os:Os) {H:Type} (enc:TypeId×Value->H):
 (OpenSpec.ofChange Rows.graphDepthsSpec).preRow enc prog f6 Rows.graphDepthsRow.domain false Rows.graphDepthsRow.laid ((laidWorld os).forCall (fun _ _=>0) ⟨#[],#[.agg #[.slice none 0 0,.int .i64 0]],[]⟩).memory #[.agg #[.slice none 0 0,.int .i64 0]]:=by
 have hw:(DataW.whole enc prog ((laidWorld os).forCall (fun _ _=>0) ⟨#[],#[.agg #[.slice none 0 0,.int .i64 0]],[]⟩).memory f6.params.toList (OpenSpec.ofChange Rows.graphDepthsSpec).vars false #[Value.agg #[.slice none 0 0,.int .i64 0]].toList 8).map (fun x=>(x.1,x.2.1))=
  some ([.agg [.nil,.lit (.int .i64 0)]],[]):=by kernel_rfl
 obtain⟨⟨x1,x2,x3⟩,hx,hx1⟩:=Option.map_eq_some_iff.1 hw;simp only[Prod.mk.injEq]at hx1;obtain⟨rfl,rfl⟩:=hx1;exact OpenSpec.preRow_of_cond 8 hx (by kernel_rfl) (fun k hk=>by cases hk) (by kernel_rfl) (zlx os _)
theorem witness_ok (os:Os):Input.okWideB prog ((laidWorld os).forCall (fun _ _=>0) ⟨#[],#[.agg #[.slice none 0 0,.int .i64 0]],[]⟩) 6 ⟨#[],#[.agg #[.slice none 0 0,.int .i64 0]],[]⟩=true:=by kernel_rfl
theorem lifted (os:Os) (started:os.Started) (H:Type) (enc:TypeId×Value->H) (F:Stop.Interp):
 ReturnsInHanded {} checked os 6 .any ((OpenSpec.ofChange Rows.graphDepthsSpec).preRow enc prog f6 Rows.graphDepthsRow.domain false Rows.graphDepthsRow.laid) (((OpenSpec.ofChange Rows.graphDepthsSpec).at F).post enc prog f6 false true false false):=by
 refine returnsInHanded_of_row (C:=checked) (s:=OpenSpec.ofChange Rows.graphDepthsSpec) own started (by kernel_rfl) func6
  ⟨laidWorld os,fun _ _=>0,⟨#[],#[.agg #[.slice none 0 0,.int .i64 0]],[]⟩,World.laidAll_os _ _ _,World.shaped_of_ZipB (by kernel_rfl) (by kernel_rfl),(Input.okWide_of_okWideB (base:=0) (witness_ok os)).1,(Input.okWide_of_okWideB (witness_ok os)).2,witness_row os enc,by
   simp only[Assume.holds];exact⟨by simp,by simp,fun _=>Modest.zero,by simp,by simp⟩⟩ ?_
 intro W base args ds gs before hval0 hW _ _ _ hL _ _;have hval:∀(j:Nat) t v,f6.params[j]? =some t->args[j]? =some v->Value.okWide prog W .any base t v:=hval0;have hW':=hW;obtain⟨p,q,hA0,hV0,rfl,_,_⟩:=hW;have hA:DataW.TrodAll enc prog W 0 (fun _=>true) true f6.params.toList args.toList ds p:=hA0;rw[params6]at hA hval;obtain⟨v0,vs0,d0,ds0,p0,q0,hargs,rfl,rfl,h0,r0⟩:=trodAll_cons hA;obtain⟨rfl,rfl,rfl⟩:=trodAll_nil r0;obtain rfl:args=#[v0]:=by cases args;simp_all
 obtain⟨rfl,rfl⟩:=trodVars_none hV0;have z0:=h0;obtain⟨A0,c0,root0,vs0',is0,rfl,g0,l0,m0⟩:=zgl (hval 0 24 v0 rfl rfl) h0;have hlt0:∀x,x∈p0->x.block<W.heap.size:=fun x hx=>hW'.lt x (by simp[hx])
 clear hA0 hV0 hval0;have hT:UT W:=zgk hL;refine(zko A0 c0 root0 vs0' is0 (zyg l0 m0) W hT g0).mono ?_;rintro e W' ⟨rfl,bel⟩;have e1:((OpenSpec.ofChange Rows.graphDepthsSpec).at F).fn H ([d0]++[])={results:=[.lit (.bool true)],args:=[d0]}:=rfl;refine⟨_,rfl,_,_,_,[],p0++[],[],hW',?_,?_,?_,World.keptBut_mono (fun x hx=>⟨hx,?_⟩) (bel.frame _),fun h=>by cases h⟩
 ·rw[e1];exact trodAll_mk1 (shut_bool underlying4 _)
 ·rw[e1];exact(trodAll_cons_mk (WideElems.Trod_stays laidOut (by kernel_rfl) (of_decide_eq_true (by kernel_rfl)) z0 (fun x hx=>bel.same (hlt0 x hx)) (fun x hx=>by simpa using hlt0 x hx)) trodAll_mk0)
 ·rw[e1];rfl
 ·simpa using hx
theorem holds:Rows.GraphDepthsSaid:=
 OpenClaim.holds_of_cond 6 f6 rfl rfl rfl rfl rfl rfl rfl ⟨rfl,rfl,rfl,rfl,rfl⟩ rfl rfl rfl rfl rfl (by kernel_rfl) func6 (by kernel_rfl)
  (of_decide_eq_true (by kernel_rfl)) (by unfold Func.isWrapper;rw[if_neg (of_decide_eq_false (by kernel_rfl))];exact⟨rfl,rfl⟩)
  (fun os started H enc _ F0=>by rw[OpenClaim.pre_eq_preRow];exact lifted os started H enc F0)
theorem proved:Rows.GraphDepthsCardSaid:=
 Claim7.holds_tied_plain_at .later [] [.data,.data,.data,.data,.sentinel,.sentinel,.pinned] true (true,"d3b1862469b883ffbb3bb63e268bd828b90ded3c43e025a915fe24e2cec11063") true
  holds (fun _ h=>by cases h) (by kernel_rfl) (fun _ h=>by cases h) graphDepths_row_tie rfl ⟨rfl,rfl⟩ (by kernel_rfl) rfl
  (fun f fn hf hfn=>by
    obtain rfl:f=6:=Option.some.inj ((show prog.funcNamed "rosetta/rosettalaw10.GraphDepths" =some 6 by kernel_rfl).symm.trans hf)|>.symm;obtain rfl:fn=f6:=(Option.some.inj (func6.symm.trans hfn)).symm;exact⟨by kernel_rfl,fun j t ht=>by
     rw[params6]at ht;have hm:t∈[24]:=by simpa using Array.mem_of_getElem? ht
     have hall:([24].all fun u=>!prog.wantsStandIn u)=true:=by kernel_rfl
     exact(show prog.wantsStandIn t=false by simpa using List.all_eq_true.1 hall t hm)⟩)
  (by kernel_rfl)
end Go.Proofs.YtoigpackhninoaaGreatDoor.graphDepths

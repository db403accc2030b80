import Derived.Test.YtoigpackhninoaaGreatDoorZ28
import Derived.Test.YtoigpackhninoaaGreatDoorZ29
import Derived.Test.YtoigpackhninoaaGreatDoorCards
import Derived.Test.YtoigpackhninoaaGreatDoorTie
/- 'GraphScalars': for every input the law returns true, and each argument reads afterwards as it read before. No condition besides: the tables of the library that are listed are tied to the program's text by the card. -/
namespace Go.Proofs.YtoigpackhninoaaGreatDoor.graphScalars
open _root_.Go.Proofs.Tryz
set_option maxRecDepth 100000
set_option maxHeartbeats 16000000
open Go.Shelf Go.Lib Go.ChangeShapes Go.WideShapes Go.ChangeAt Go.RowKit
open Go.ChangeMaps
theorem witness_row (os:Os) {H:Type} (enc:TypeId×Value->H):
 (OpenSpec.ofChange Rows.graphScalarsSpec).preRow enc prog f4 Rows.graphScalarsRow.domain false Rows.graphScalarsRow.laid ((laidWorld os).forCall (fun _ _=>0) ⟨#[],#[.int .i64 0,.string ⟨#[]⟩],[]⟩).memory #[.int .i64 0,.string ⟨#[]⟩]:=by
 have hw:(DataW.whole enc prog ((laidWorld os).forCall (fun _ _=>0) ⟨#[],#[.int .i64 0,.string ⟨#[]⟩],[]⟩).memory f4.params.toList (OpenSpec.ofChange Rows.graphScalarsSpec).vars false #[Value.int .i64 0,Value.string ⟨#[]⟩].toList 8).map (fun x=>(x.1,x.2.1))=
  some ([.lit (.int .i64 0),.lit (.string [])],[]):=by kernel_rfl
 obtain⟨⟨x1,x2,x3⟩,hx,hx1⟩:=Option.map_eq_some_iff.1 hw;simp only[Prod.mk.injEq]at hx1;obtain⟨rfl,rfl⟩:=hx1;exact OpenSpec.preRow_of_cond 8 hx (by kernel_rfl) (fun k hk=>by cases hk) (by kernel_rfl) (zp7 os _)
theorem witness_ok (os:Os):Input.okWideB prog ((laidWorld os).forCall (fun _ _=>0) ⟨#[],#[.int .i64 0,.string ⟨#[]⟩],[]⟩) 4 ⟨#[],#[.int .i64 0,.string ⟨#[]⟩],[]⟩=true:=by kernel_rfl
theorem lifted (os:Os) (started:os.Started) (H:Type) (enc:TypeId×Value->H) (F:Stop.Interp):
 ReturnsInHanded {} checked os 4 .any ((OpenSpec.ofChange Rows.graphScalarsSpec).preRow enc prog f4 Rows.graphScalarsRow.domain false Rows.graphScalarsRow.laid) (((OpenSpec.ofChange Rows.graphScalarsSpec).at F).post enc prog f4 false true false false):=by
 refine returnsInHanded_of_row (C:=checked) (s:=OpenSpec.ofChange Rows.graphScalarsSpec) own started (by kernel_rfl) func4
  ⟨laidWorld os,fun _ _=>0,⟨#[],#[.int .i64 0,.string ⟨#[]⟩],[]⟩,World.laidAll_os _ _ _,World.shaped_of_ZipB (by kernel_rfl) (by kernel_rfl),(Input.okWide_of_okWideB (base:=0) (witness_ok os)).1,(Input.okWide_of_okWideB (witness_ok os)).2,witness_row os enc,by
   simp only[Assume.holds];exact⟨by simp,by simp,fun _=>Modest.zero,by simp,by simp⟩⟩ ?_
 intro W base args ds gs before hval0 hW _ _ _ hL _ _;have hval:∀(j:Nat) t v,f4.params[j]? =some t->args[j]? =some v->Value.okWide prog W .any base t v:=hval0;have hW':=hW;obtain⟨p,q,hA0,hV0,rfl,_,_⟩:=hW;have hA:DataW.TrodAll enc prog W 0 (fun _=>true) true f4.params.toList args.toList ds p:=hA0;rw[params4]at hA hval;obtain⟨v0,vs0,d0,ds0,p0,q0,hargs,rfl,rfl,h0,r0⟩:=trodAll_cons hA;obtain⟨v1,vs1,d1,ds1,p1,q1,rfl,rfl,rfl,h1,r1⟩:=trodAll_cons r0;obtain⟨rfl,rfl,rfl⟩:=trodAll_nil r1;obtain rfl:args=#[v0,v1]:=by cases args;simp_all
 obtain⟨rfl,rfl⟩:=trodVars_none hV0;obtain⟨a0,rfl,rfl,rfl,w0⟩:=open_int underlying3 (hval 0 3 v0 rfl rfl) h0;obtain⟨s1,rfl,rfl,rfl,w1⟩:=open_string underlying9 (hval 1 9 v1 rfl rfl) h1;obtain⟨t1,rfl⟩:=zp4 s1;clear hA0 hV0 hval0;have hT:UT W:=zk1 hL;refine(zhe a0 t1 (by have:=w1;rw[zp5]at this;unfold maxLen at this;omega) W hT).mono ?_;rintro e W' ⟨rfl,bel⟩;have e1:((OpenSpec.ofChange Rows.graphScalarsSpec).at F).fn H ([.lit (.int .i64 a0),.lit (.string (⟨t1.toArray⟩:ByteArray).data.toList)]++[])={results:=[.lit (.bool true)],args:=[.lit (.int .i64 a0),.lit (.string (⟨t1.toArray⟩:ByteArray).data.toList)]}:=rfl;refine⟨_,rfl,_,_,_,[],[],[],hW',?_,?_,?_,bel.frame _,fun h=>by cases h⟩
 ·rw[e1];exact trodAll_mk1 (shut_bool underlying4 _)
 ·rw[e1];exact trodAll_mk2 (shut_int underlying3 w0) (shut_string underlying9 w1)
 ·rw[e1];rfl
theorem holds:Rows.GraphScalarsSaid:=
 OpenClaim.holds_of_cond 4 f4 rfl rfl rfl rfl rfl rfl rfl ⟨rfl,rfl,rfl,rfl,rfl⟩ rfl rfl rfl rfl rfl (by kernel_rfl) func4 (by kernel_rfl)
  (of_decide_eq_true (by kernel_rfl)) (by unfold Func.isWrapper;rw[if_neg (of_decide_eq_false (by kernel_rfl))];exact⟨rfl,rfl⟩)
  (fun os started H enc _ F0=>by rw[OpenClaim.pre_eq_preRow];exact lifted os started H enc F0)
theorem proved:Rows.GraphScalarsCardSaid:=
 Claim7.holds_tied_plain_at .later [] [.data,.data,.data,.data,.sentinel,.sentinel,.pinned] true (true,"d3b1862469b883ffbb3bb63e268bd828b90ded3c43e025a915fe24e2cec11063") true
  holds (fun _ h=>by cases h) (by kernel_rfl) (fun _ h=>by cases h) graphScalars_row_tie rfl ⟨rfl,rfl⟩ (by kernel_rfl) rfl
  (fun f fn hf hfn=>by
    obtain rfl:f=4:=Option.some.inj ((show prog.funcNamed "rosetta/rosettalaw10.GraphScalars" =some 4 by kernel_rfl).symm.trans hf)|>.symm;obtain rfl:fn=f4:=(Option.some.inj (func4.symm.trans hfn)).symm;exact⟨by kernel_rfl,fun j t ht=>by
     rw[params4]at ht;have hm:t∈[3,9]:=by simpa using Array.mem_of_getElem? ht
     have hall:([3,9].all fun u=>!prog.wantsStandIn u)=true:=by kernel_rfl
     exact(show prog.wantsStandIn t=false by simpa using List.all_eq_true.1 hall t hm)⟩)
  (by kernel_rfl)
end Go.Proofs.YtoigpackhninoaaGreatDoor.graphScalars

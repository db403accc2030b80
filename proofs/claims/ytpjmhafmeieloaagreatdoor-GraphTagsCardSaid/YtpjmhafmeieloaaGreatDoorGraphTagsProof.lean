import Derived.Test.YtpjmhafmeieloaaGreatDoorZ26
import Derived.Test.YtpjmhafmeieloaaGreatDoorCards
import Derived.Test.YtpjmhafmeieloaaGreatDoorTie
/- 'GraphTags': for every input the law returns true, and each argument reads afterwards as it read before. No condition besides: the tables of the library that are listed are tied to the program's text by the card. -/
namespace Go.Proofs.YtpjmhafmeieloaaGreatDoor.graphTags
open _root_.Go.Proofs.Tryz
set_option maxRecDepth 100000
set_option maxHeartbeats 16000000
open Go.Shelf Go.Lib Go.ChangeShapes Go.WideShapes Go.ChangeAt Go.RowKit
open Go.ChangeMaps
theorem laidOut:laidOutB prog=true:=by kernel_rfl
theorem witness_row (os:Os) {H:Type} (enc:TypeId×Value->H):
 (OpenSpec.ofChange Rows.graphTagsSpec).preRow enc prog f3 Rows.graphTagsRow.domain false Rows.graphTagsRow.laid ((laidWorld os).forCall (fun _ _=>0) ⟨#[],#[.string ⟨#[]⟩,.agg #[.slice none 0 0,.int .i64 0]],[]⟩).memory #[.string ⟨#[]⟩,.agg #[.slice none 0 0,.int .i64 0]]:=by
 have d:(DataW.whole enc prog ((laidWorld os).forCall (fun _ _=>0) ⟨#[],#[.string ⟨#[]⟩,.agg #[.slice none 0 0,.int .i64 0]],[]⟩).memory f3.params.toList (OpenSpec.ofChange Rows.graphTagsSpec).vars false #[Value.string ⟨#[]⟩,Value.agg #[.slice none 0 0,.int .i64 0]].toList 8).map (fun x=>(x.1,x.2.1))=
  some ([.lit (.string []),.agg [.nil,.lit (.int .i64 0)]],[]):=by kernel_rfl
 obtain⟨⟨x1,x2,x3⟩,b,a⟩:=Option.map_eq_some_iff.1 d;simp only[Prod.mk.injEq]at a;obtain⟨rfl,rfl⟩:=a;exact OpenSpec.preRow_of_cond 8 b (by kernel_rfl) (fun k c=>by cases c) (by kernel_rfl) (zuj os _)
theorem witness_ok (os:Os):Input.okWideB prog ((laidWorld os).forCall (fun _ _=>0) ⟨#[],#[.string ⟨#[]⟩,.agg #[.slice none 0 0,.int .i64 0]],[]⟩) 3 ⟨#[],#[.string ⟨#[]⟩,.agg #[.slice none 0 0,.int .i64 0]],[]⟩=true:=by kernel_rfl
theorem lifted (os:Os) (started:os.Started) (H:Type) (enc:TypeId×Value->H) (F:Stop.Interp):
 ReturnsInHanded {} checked os 3 .any ((OpenSpec.ofChange Rows.graphTagsSpec).preRow enc prog f3 Rows.graphTagsRow.domain false Rows.graphTagsRow.laid) (((OpenSpec.ofChange Rows.graphTagsSpec).at F).post enc prog f3 false true false false):=by
 refine returnsInHanded_of_row (C:=checked) (s:=OpenSpec.ofChange Rows.graphTagsSpec) own started (by kernel_rfl) func3
  ⟨laidWorld os,fun _ _=>0,⟨#[],#[.string ⟨#[]⟩,.agg #[.slice none 0 0,.int .i64 0]],[]⟩,World.laidAll_os _ _ _,World.shaped_of_ZipB (by kernel_rfl) (by kernel_rfl),(Input.okWide_of_okWideB (base:=0) (witness_ok os)).1,(Input.okWide_of_okWideB (witness_ok os)).2,witness_row os enc,by
   simp only[Assume.holds];exact⟨by simp,by simp,fun _=>Modest.zero,by simp,by simp⟩⟩ ?_
 intro W base args N gs before b A _ _ _ R _ _;have a:∀(j:Nat) t v,f3.params[j]? =some t->args[j]? =some v->Value.okWide prog W .any base t v:=b;have m:=A;obtain⟨p,q,g,l,rfl,_,_⟩:=A;have E:DataW.TrodAll enc prog W 0 (fun _=>true) true f3.params.toList args.toList N p:=g;rw[params3]at E a;obtain⟨w,vs0,d0,ds0,p0,q0,hargs,rfl,rfl,G,M⟩:=trodAll_cons E;obtain⟨z,vs1,B,ds1,y,q1,rfl,rfl,rfl,u,L⟩:=trodAll_cons M;obtain⟨rfl,rfl,rfl⟩:=trodAll_nil L;obtain rfl:args=#[w,z]:=by cases args;simp_all
 obtain⟨rfl,rfl⟩:=trodVars_none l;obtain⟨s0,rfl,rfl,rfl,D⟩:=open_string underlying9 (a 0 9 w rfl rfl) G;obtain⟨o,rfl⟩:=zub s0;have I:=u;obtain⟨J,P,f,k,n,rfl,S,K,O⟩:=zn3 (a 1 24 z rfl rfl) u;have c:∀x,x∈y->x.block<W.heap.size:=fun x d=>m.lt x (by simp[d])
 clear g l b;have Q:UT W:=zn0 R;refine(zr3 o J P f k n (by have:=D;rw[zuc]at this;unfold maxLen at this;omega) (zy9 K O) W Q S).mono ?_;rintro e W' ⟨rfl,i⟩;have r:((OpenSpec.ofChange Rows.graphTagsSpec).at F).fn H ([.lit (.string (⟨o.toArray⟩:ByteArray).data.toList),B]++[])={results:=[.lit (.bool true)],args:=[.lit (.string (⟨o.toArray⟩:ByteArray).data.toList),B]}:=rfl;refine⟨_,rfl,_,_,_,[],[]++(y++[]),[],m,?_,?_,?_,World.keptBut_mono (fun x d=>⟨d,?_⟩) (i.frame _),fun h=>by cases h⟩
 .rw[r];exact trodAll_mk1 (shut_bool underlying4 _)
 .rw[r];exact(trodAll_cons_mk (shut_string underlying9 D) (trodAll_cons_mk (WideElems.Trod_stays laidOut (by kernel_rfl) (of_decide_eq_true (by kernel_rfl)) I (fun x d=>i.same (c x d)) (fun x d=>by simpa using c x d)) trodAll_mk0))
 .rw[r];rfl
 .simpa using d
theorem holds:Rows.GraphTagsSaid:=
 OpenClaim.holds_of_cond 3 f3 rfl rfl rfl rfl rfl rfl rfl ⟨rfl,rfl,rfl,rfl,rfl⟩ rfl rfl rfl rfl rfl (by kernel_rfl) func3 (by kernel_rfl)
  (of_decide_eq_true (by kernel_rfl)) (by unfold Func.isWrapper;rw[if_neg (of_decide_eq_false (by kernel_rfl))];exact⟨rfl,rfl⟩)
  (fun c a H b _ d=>by rw[OpenClaim.pre_eq_preRow];exact lifted c a H b d)
theorem proved:Rows.GraphTagsCardSaid:=
 Claim7.holds_tied_plain_at .later [] [.data,.data,.data,.data,.sentinel,.sentinel,.pinned] true (true,"0330446aa59d6e1a30369c2c527d17a7aee00bc55e8d6e80f48788d62b3fcddf") true
  holds (fun _ h=>by cases h) (by kernel_rfl) (fun _ h=>by cases h) graphTags_row_tie rfl ⟨rfl,rfl⟩ (by kernel_rfl) rfl
  (fun f g d b=>by
    obtain rfl:f=3:=Option.some.inj ((show prog.funcNamed "rosetta/rosettalaw10.GraphTags" =some 3 by kernel_rfl).symm.trans d)|>.symm;obtain rfl:g=f3:=(Option.some.inj (func3.symm.trans b)).symm;exact⟨by kernel_rfl,fun j t c=>by
     rw[params3]at c;have e:t∈[9,24]:=by simpa using Array.mem_of_getElem? c
     have a:([9,24].all fun u=>!prog.wantsStandIn u)=true:=by kernel_rfl
     exact(show prog.wantsStandIn t=false by simpa using List.all_eq_true.1 a t e)⟩)
  (by kernel_rfl)
end Go.Proofs.YtpjmhafmeieloaaGreatDoor.graphTags

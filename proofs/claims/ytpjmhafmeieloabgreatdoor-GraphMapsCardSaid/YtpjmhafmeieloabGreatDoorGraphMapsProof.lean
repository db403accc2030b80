import Derived.Test.YtpjmhafmeieloabGreatDoorZ27
import Derived.Test.YtpjmhafmeieloabGreatDoorCards
import Derived.Test.YtpjmhafmeieloabGreatDoorTie
/- 'GraphMaps': for every input the law returns true, and each argument reads afterwards as it read before. No condition besides: the tables of the library that are listed are tied to the program's text by the card. -/
namespace Go.Proofs.YtpjmhafmeieloabGreatDoor.graphMaps
open _root_.Go.Proofs.Tryz
set_option maxRecDepth 100000
set_option maxHeartbeats 16000000
open Go.Shelf Go.Lib Go.ChangeShapes Go.WideShapes Go.ChangeAt Go.RowKit
open Go.ChangeMaps
theorem laidOut:laidOutB prog=true:=by kernel_rfl
theorem witness_row (os:Os) {H:Type} (enc:TypeId×Value->H):
 (OpenSpec.ofChange Rows.graphMapsSpec).preRow enc prog f3 Rows.graphMapsRow.domain false Rows.graphMapsRow.laid ((laidWorld os).forCall (fun _ _=>0) ⟨#[],#[.bool false,.slice none 0 0,.slice none 0 0],[]⟩).memory #[.bool false,.slice none 0 0,.slice none 0 0]:=by
 have c:(DataW.whole enc prog ((laidWorld os).forCall (fun _ _=>0) ⟨#[],#[.bool false,.slice none 0 0,.slice none 0 0],[]⟩).memory f3.params.toList (OpenSpec.ofChange Rows.graphMapsSpec).vars false #[Value.bool false,Value.slice none 0 0,Value.slice none 0 0].toList 8).map (fun x=>(x.1,x.2.1))=
  some ([.lit (.bool false),.nil,.nil],[]):=by kernel_rfl
 obtain⟨⟨x1,x2,x3⟩,b,a⟩:=Option.map_eq_some_iff.1 c;simp only[Prod.mk.injEq]at a;obtain⟨rfl,rfl⟩:=a;exact OpenSpec.preRow_of_cond 8 b (by kernel_rfl) (fun k d=>by cases d) (by kernel_rfl) (zue os _)
theorem witness_ok (os:Os):Input.okWideB prog ((laidWorld os).forCall (fun _ _=>0) ⟨#[],#[.bool false,.slice none 0 0,.slice none 0 0],[]⟩) 3 ⟨#[],#[.bool false,.slice none 0 0,.slice none 0 0],[]⟩=true:=by kernel_rfl
theorem lifted (os:Os) (started:os.Started) (H:Type) (enc:TypeId×Value->H) (F:Stop.Interp):
 ReturnsInHanded {} checked os 3 .any ((OpenSpec.ofChange Rows.graphMapsSpec).preRow enc prog f3 Rows.graphMapsRow.domain false Rows.graphMapsRow.laid) (((OpenSpec.ofChange Rows.graphMapsSpec).at F).post enc prog f3 false true false false):=by
 refine returnsInHanded_of_row (C:=checked) (s:=OpenSpec.ofChange Rows.graphMapsSpec) own started (by kernel_rfl) func3
  ⟨laidWorld os,fun _ _=>0,⟨#[],#[.bool false,.slice none 0 0,.slice none 0 0],[]⟩,World.laidAll_os _ _ _,World.shaped_of_ZipB (by kernel_rfl) (by kernel_rfl),(Input.okWide_of_okWideB (base:=0) (witness_ok os)).1,(Input.okWide_of_okWideB (witness_ok os)).2,witness_row os enc,by
   simp only[Assume.holds];exact⟨by simp,by simp,fun _=>Modest.zero,by simp,by simp⟩⟩ ?_
 intro W base args N gs before c u _ _ _ V _ _;have b:∀(j:Nat) t v,f3.params[j]? =some t->args[j]? =some v->Value.okWide prog W .any base t v:=c;have i:=u;obtain⟨p,q,l,k,rfl,_,_⟩:=u;have B:DataW.TrodAll enc prog W 0 (fun _=>true) true f3.params.toList args.toList N p:=l;rw[params3]at B b;obtain⟨o,vs0,d0,ds0,p0,q0,hargs,rfl,rfl,T,Y⟩:=trodAll_cons B;obtain⟨w,vs1,D,ds1,E,q1,rfl,rfl,rfl,G,O⟩:=trodAll_cons Y;obtain⟨y,vs2,A,ds2,r,q2,rfl,rfl,rfl,z,X⟩:=trodAll_cons O;obtain⟨rfl,rfl,rfl⟩:=trodAll_nil X;obtain rfl:args=#[o,w,y]:=by cases args;simp_all
 obtain⟨rfl,rfl⟩:=trodVars_none k;obtain⟨m,rfl,rfl,rfl⟩:=open_bool underlying4 (b 0 4 o rfl rfl) T;have L:=G;obtain⟨R,Q,K,rfl,U,m1,M⟩:=zfq (b 1 22 w rfl rfl) G;have z2:=z;obtain⟨J,c2,I,rfl,P,m2,Z⟩:=zfq (b 2 22 y rfl rfl) z;have d:∀x,x∈E->x.block<W.heap.size:=fun x a=>i.lt x (by simp[a])
 have f:∀x,x∈r->x.block<W.heap.size:=fun x a=>i.lt x (by simp[a])
 clear l k c;have S:UT W:=znv V;refine(zr1 m R Q K J c2 I m1 M m2 Z W S U P).mono ?_;rintro e W' ⟨rfl,g⟩;have n:((OpenSpec.ofChange Rows.graphMapsSpec).at F).fn H ([.lit (.bool m),D,A]++[])={results:=[.lit (.bool true)],args:=[.lit (.bool m),D,A]}:=rfl;refine⟨_,rfl,_,_,_,[],[]++(E++(r++[])),[],i,?_,?_,?_,World.keptBut_mono (fun x a=>⟨a,?_⟩) (g.frame _),fun h=>by cases h⟩
 .rw[n];exact trodAll_mk1 (shut_bool underlying4 _)
 .rw[n];exact(trodAll_cons_mk (shut_bool underlying4 _) (trodAll_cons_mk (WideElems.Trod_stays laidOut (by kernel_rfl) (of_decide_eq_true (by kernel_rfl)) L (fun x a=>g.same (d x a)) (fun x a=>by simpa using d x a)) (trodAll_cons_mk (WideElems.Trod_stays laidOut (by kernel_rfl) (of_decide_eq_true (by kernel_rfl)) z2 (fun x a=>g.same (f x a)) (fun x a=>by simpa using f x a)) trodAll_mk0)))
 .rw[n];rfl
 .simpa using a
theorem holds:Rows.GraphMapsSaid:=
 OpenClaim.holds_of_cond 3 f3 rfl rfl rfl rfl rfl rfl rfl ⟨rfl,rfl,rfl,rfl,rfl⟩ rfl rfl rfl rfl rfl (by kernel_rfl) func3 (by kernel_rfl)
  (of_decide_eq_true (by kernel_rfl)) (by unfold Func.isWrapper;rw[if_neg (of_decide_eq_false (by kernel_rfl))];exact⟨rfl,rfl⟩)
  (fun c a H b _ d=>by rw[OpenClaim.pre_eq_preRow];exact lifted c a H b d)
theorem proved:Rows.GraphMapsCardSaid:=
 Claim7.holds_tied_plain_at .later [] [.data,.data,.data,.data,.sentinel,.sentinel,.pinned] true (true,"8146e2d19242ab0d271db69a75c5f0ae2908bf985b86b11c92a86fe3f2494ebc") true
  holds (fun _ h=>by cases h) (by kernel_rfl) (fun _ h=>by cases h) graphMaps_row_tie rfl ⟨rfl,rfl⟩ (by kernel_rfl) rfl
  (fun f e g b=>by
    obtain rfl:f=3:=Option.some.inj ((show prog.funcNamed "rosetta/rosettalaw10.GraphMaps" =some 3 by kernel_rfl).symm.trans g)|>.symm;obtain rfl:e=f3:=(Option.some.inj (func3.symm.trans b)).symm;exact⟨by kernel_rfl,fun j t c=>by
     rw[params3]at c;have d:t∈[4,22,22]:=by simpa using Array.mem_of_getElem? c
     have a:([4,22,22].all fun u=>!prog.wantsStandIn u)=true:=by kernel_rfl
     exact(show prog.wantsStandIn t=false by simpa using List.all_eq_true.1 a t d)⟩)
  (by kernel_rfl)
end Go.Proofs.YtpjmhafmeieloabGreatDoor.graphMaps

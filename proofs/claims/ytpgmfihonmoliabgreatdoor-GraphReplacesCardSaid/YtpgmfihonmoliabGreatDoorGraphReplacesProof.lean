import Derived.Test.YtpgmfihonmoliabGreatDoorZ12
import Derived.Test.YtpgmfihonmoliabGreatDoorCards
import Derived.Test.YtpgmfihonmoliabGreatDoorTie
/- 'GraphReplaces': for every input the law returns true, and each argument reads afterwards as it read before. No condition besides: the tables of the library that are listed are tied to the program's text by the card. -/
namespace Go.Proofs.YtpgmfihonmoliabGreatDoor.graphReplaces
open _root_.Go.Proofs.Tryz
set_option maxRecDepth 100000
set_option maxHeartbeats 16000000
open Go.Shelf Go.Lib Go.ChangeShapes Go.WideShapes Go.ChangeAt Go.RowKit
open Go.ChangeMaps
theorem laidOut:laidOutB prog=true:=by kernel_rfl
theorem witness_row (os:Os) {H:Type} (enc:TypeId×Value->H):
 (OpenSpec.ofChange Rows.graphReplacesSpec).preRow enc prog f3 Rows.graphReplacesRow.domain false Rows.graphReplacesRow.laid ((laidWorld os).forCall (fun _ _=>0) ⟨#[],#[.agg #[.slice none 0 0,.int .i64 0],.int .i64 0,.agg #[.slice none 0 0,.int .i64 0]],[]⟩).memory #[.agg #[.slice none 0 0,.int .i64 0],.int .i64 0,.agg #[.slice none 0 0,.int .i64 0]]:=by
 have b:(DataW.whole enc prog ((laidWorld os).forCall (fun _ _=>0) ⟨#[],#[.agg #[.slice none 0 0,.int .i64 0],.int .i64 0,.agg #[.slice none 0 0,.int .i64 0]],[]⟩).memory f3.params.toList (OpenSpec.ofChange Rows.graphReplacesSpec).vars false #[Value.agg #[.slice none 0 0,.int .i64 0],Value.int .i64 0,Value.agg #[.slice none 0 0,.int .i64 0]].toList 8).map (fun x=>(x.1,x.2.1))=
  some ([.agg [.nil,.lit (.int .i64 0)],.lit (.int .i64 0),.agg [.nil,.lit (.int .i64 0)]],[]):=by kernel_rfl
 obtain⟨⟨x1,x2,x3⟩,d,a⟩:=Option.map_eq_some_iff.1 b;simp only[Prod.mk.injEq]at a;obtain⟨rfl,rfl⟩:=a;exact OpenSpec.preRow_of_cond 8 d (by kernel_rfl) (fun k c=>by cases c) (by kernel_rfl) (zvk os _)
theorem witness_ok (os:Os):Input.okWideB prog ((laidWorld os).forCall (fun _ _=>0) ⟨#[],#[.agg #[.slice none 0 0,.int .i64 0],.int .i64 0,.agg #[.slice none 0 0,.int .i64 0]],[]⟩) 3 ⟨#[],#[.agg #[.slice none 0 0,.int .i64 0],.int .i64 0,.agg #[.slice none 0 0,.int .i64 0]],[]⟩=true:=by kernel_rfl
theorem lifted (os:Os) (started:os.Started) (H:Type) (enc:TypeId×Value->H) (F:Stop.Interp):
 ReturnsInHanded {} checked os 3 .any ((OpenSpec.ofChange Rows.graphReplacesSpec).preRow enc prog f3 Rows.graphReplacesRow.domain false Rows.graphReplacesRow.laid) (((OpenSpec.ofChange Rows.graphReplacesSpec).at F).post enc prog f3 false true false false):=by
 refine returnsInHanded_of_row (C:=checked) (s:=OpenSpec.ofChange Rows.graphReplacesSpec) own started (by kernel_rfl) func3
  ⟨laidWorld os,fun _ _=>0,⟨#[],#[.agg #[.slice none 0 0,.int .i64 0],.int .i64 0,.agg #[.slice none 0 0,.int .i64 0]],[]⟩,World.laidAll_os _ _ _,World.shaped_of_ZipB (by kernel_rfl) (by kernel_rfl),(Input.okWide_of_okWideB (base:=0) (witness_ok os)).1,(Input.okWide_of_okWideB (witness_ok os)).2,witness_row os enc,by
   simp only[Assume.holds];exact⟨by simp,by simp,fun _=>Modest.zero,by simp,by simp⟩⟩ ?_
 intro W base args ds gs before c M _ _ _ O _ _;have b:∀(j:Nat) t v,f3.params[j]? =some t->args[j]? =some v->Value.okWide prog W .any base t v:=c;have k:=M;obtain⟨p,q,m,o,rfl,_,_⟩:=M;have B:DataW.TrodAll enc prog W 0 (fun _=>true) true f3.params.toList args.toList ds p:=m;rw[params3]at B b;obtain⟨K,vs0,E,ds0,G,q0,hargs,rfl,rfl,L,P⟩:=trodAll_cons B;obtain⟨I,vs1,d1,ds1,p1,q1,rfl,rfl,rfl,h1,r1⟩:=trodAll_cons P;obtain⟨J,vs2,A,ds2,N,q2,rfl,rfl,rfl,D,T⟩:=trodAll_cons r1;obtain⟨rfl,rfl,rfl⟩:=trodAll_nil T;obtain rfl:args=#[K,I,J]:=by cases args;simp_all
 obtain⟨rfl,rfl⟩:=trodVars_none o;have z0:=L;obtain⟨X,R,l,n,y,rfl,g0,Y,m0⟩:=zgy (b 0 24 K rfl rfl) L;obtain⟨u,rfl,rfl,rfl,w1⟩:=open_int underlying3 (b 1 3 I rfl rfl) h1;have Q:=D;obtain⟨Z,c2,i,r,z,rfl,S,V,U⟩:=zgy (b 2 24 J rfl rfl) D;have f:∀x,x∈G->x.block<W.heap.size:=fun x a=>k.lt x (by simp[a])
 have d:∀x,x∈N->x.block<W.heap.size:=fun x a=>k.lt x (by simp[a])
 clear m o c;have hT:UT W:=zoq O;refine(zh9 X R l n y u Z c2 i r z (zzs Y m0) (zzs V U) W hT g0 S).mono ?_;rintro e W' ⟨rfl,g⟩;have w:((OpenSpec.ofChange Rows.graphReplacesSpec).at F).fn H ([E,.lit (.int .i64 u),A]++[])={results:=[.lit (.bool true)],args:=[E,.lit (.int .i64 u),A]}:=rfl;refine⟨_,rfl,_,_,_,[],G++([]++(N++[])),[],k,?_,?_,?_,World.keptBut_mono (fun x a=>⟨a,?_⟩) (g.frame _),fun h=>by cases h⟩
 .rw[w];exact trodAll_mk1 (shut_bool underlying4 _)
 .rw[w];exact(trodAll_cons_mk (WideElems.Trod_stays laidOut (by kernel_rfl) (qqy (by kernel_rfl)) z0 (fun x a=>g.same (f x a)) (fun x a=>by simpa using f x a)) (trodAll_cons_mk (shut_int underlying3 w1) (trodAll_cons_mk (WideElems.Trod_stays laidOut (by kernel_rfl) (qqy (by kernel_rfl)) Q (fun x a=>g.same (d x a)) (fun x a=>by simpa using d x a)) trodAll_mk0)))
 .rw[w];rfl
 .simpa using a
theorem holds:Rows.GraphReplacesSaid:=
 OpenClaim.holds_of_cond 3 f3 rfl rfl rfl rfl rfl rfl rfl ⟨rfl,rfl,rfl,rfl,rfl⟩ rfl rfl rfl rfl rfl (by kernel_rfl) func3 (by kernel_rfl)
  (qqy (by kernel_rfl)) (by unfold Func.isWrapper;rw[if_neg (qqz (by kernel_rfl))];exact⟨rfl,rfl⟩)
  (fun d a H b _ c=>by rw[OpenClaim.pre_eq_preRow];exact lifted d a H b c)
theorem proved:Rows.GraphReplacesCardSaid:=
 Claim7.holds_tied_plain_at .later [] [.data,.data,.data,.data,.sentinel,.sentinel,.pinned] true (true,"938997e71d8544f63f06bd81f6e90cadb0157383426ba6eadccc160d667149a4") true
  holds (fun _ h=>by cases h) (by kernel_rfl) (fun _ h=>by cases h) graphReplaces_row_tie rfl ⟨rfl,rfl⟩ (by kernel_rfl) rfl
  (fun f g e b=>by
    obtain rfl:f=3:=Option.some.inj ((show prog.funcNamed "rosetta/rosettalaw10.GraphReplaces" =some 3 by kernel_rfl).symm.trans e)|>.symm;obtain rfl:g=f3:=(Option.some.inj (func3.symm.trans b)).symm;exact⟨by kernel_rfl,fun j t c=>by
     rw[params3]at c;have d:t∈[24,3,24]:=by simpa using Array.mem_of_getElem? c
     have a:([24,3,24].all fun u=>!prog.wantsStandIn u)=true:=by kernel_rfl
     exact(show prog.wantsStandIn t=false by simpa using List.all_eq_true.1 a t d)⟩)
  (by kernel_rfl)
end Go.Proofs.YtpgmfihonmoliabGreatDoor.graphReplaces

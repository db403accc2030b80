import Derived.Test.YtpgmfihonmoliaaGreatDoorZ18
import Derived.Test.YtpgmfihonmoliaaGreatDoorCards
import Derived.Test.YtpgmfihonmoliaaGreatDoorTie
/- 'GraphSubs': for every input the law returns true, and each argument reads afterwards as it read before. No condition besides: the tables of the library that are listed are tied to the program's text by the card. -/
namespace Go.Proofs.YtpgmfihonmoliaaGreatDoor.graphSubs
open _root_.Go.Proofs.Tryz
set_option maxRecDepth 100000
set_option maxHeartbeats 16000000
open Go.Shelf Go.Lib Go.ChangeShapes Go.WideShapes Go.ChangeAt Go.RowKit
open Go.ChangeMaps
theorem laidOut:laidOutB prog=true:=by kernel_rfl
theorem witness_row (os:Os) {H:Type} (enc:TypeId×Value->H):
 (OpenSpec.ofChange Rows.graphSubsSpec).preRow enc prog f3 Rows.graphSubsRow.domain false Rows.graphSubsRow.laid ((laidWorld os).forCall (fun _ _=>0) ⟨#[],#[.agg #[.slice none 0 0,.int .i64 0],.int .i64 0],[]⟩).memory #[.agg #[.slice none 0 0,.int .i64 0],.int .i64 0]:=by
 have d:(DataW.whole enc prog ((laidWorld os).forCall (fun _ _=>0) ⟨#[],#[.agg #[.slice none 0 0,.int .i64 0],.int .i64 0],[]⟩).memory f3.params.toList (OpenSpec.ofChange Rows.graphSubsSpec).vars false #[Value.agg #[.slice none 0 0,.int .i64 0],Value.int .i64 0].toList 8).map (fun x=>(x.1,x.2.1))=
  some ([.agg [.nil,.lit (.int .i64 0)],.lit (.int .i64 0)],[]):=by kernel_rfl
 obtain⟨⟨x1,x2,x3⟩,c,a⟩:=Option.map_eq_some_iff.1 d;simp only[Prod.mk.injEq]at a;obtain⟨rfl,rfl⟩:=a;exact OpenSpec.preRow_of_cond 8 c (by kernel_rfl) (fun k b=>by cases b) (by kernel_rfl) (zuc os _)
theorem witness_ok (os:Os):Input.okWideB prog ((laidWorld os).forCall (fun _ _=>0) ⟨#[],#[.agg #[.slice none 0 0,.int .i64 0],.int .i64 0],[]⟩) 3 ⟨#[],#[.agg #[.slice none 0 0,.int .i64 0],.int .i64 0],[]⟩=true:=by kernel_rfl
theorem lifted (os:Os) (started:os.Started) (H:Type) (enc:TypeId×Value->H) (F:Stop.Interp):
 ReturnsInHanded {} checked os 3 .any ((OpenSpec.ofChange Rows.graphSubsSpec).preRow enc prog f3 Rows.graphSubsRow.domain false Rows.graphSubsRow.laid) (((OpenSpec.ofChange Rows.graphSubsSpec).at F).post enc prog f3 false true false false):=by
 refine returnsInHanded_of_row (C:=checked) (s:=OpenSpec.ofChange Rows.graphSubsSpec) own started (by kernel_rfl) func3
  ⟨laidWorld os,fun _ _=>0,⟨#[],#[.agg #[.slice none 0 0,.int .i64 0],.int .i64 0],[]⟩,World.laidAll_os _ _ _,World.shaped_of_ZipB (by kernel_rfl) (by kernel_rfl),(Input.okWide_of_okWideB (base:=0) (witness_ok os)).1,(Input.okWide_of_okWideB (witness_ok os)).2,witness_row os enc,by
   simp only[Assume.holds];exact⟨by simp,by simp,fun _=>Modest.zero,by simp,by simp⟩⟩ ?_
 intro W base args J gs before b D _ _ _ N _ _;have a:∀(j:Nat) t v,f3.params[j]? =some t->args[j]? =some v->Value.okWide prog W .any base t v:=b;have m:=D;obtain⟨p,q,g,l,rfl,_,_⟩:=D;have z:DataW.TrodAll enc prog W 0 (fun _=>true) true f3.params.toList args.toList J p:=g;rw[params3]at z a;obtain⟨A,vs0,E,ds0,y,q0,hargs,rfl,rfl,w,O⟩:=trodAll_cons z;obtain⟨u,vs1,d1,ds1,p1,q1,rfl,rfl,rfl,M,R⟩:=trodAll_cons O;obtain⟨rfl,rfl,rfl⟩:=trodAll_nil R;obtain rfl:args=#[A,u]:=by cases args;simp_all
 obtain⟨rfl,rfl⟩:=trodVars_none l;have B:=w;obtain⟨P,K,f,i,r,rfl,I,S,L⟩:=znz (a 0 24 A rfl rfl) w;obtain⟨n,rfl,rfl,rfl,G⟩:=open_int underlying3 (a 1 3 u rfl rfl) M;have d:∀x,x∈y->x.block<W.heap.size:=fun x c=>m.lt x (by simp[c])
 clear g l b;have Q:UT W:=znw N;refine(zry P K f i r n (zy6 S L) (zr2 B) W Q I).mono ?_;rintro e W' ⟨rfl,k⟩;have o:((OpenSpec.ofChange Rows.graphSubsSpec).at F).fn H ([E,.lit (.int .i64 n)]++[])={results:=[.lit (.bool true)],args:=[E,.lit (.int .i64 n)]}:=rfl;refine⟨_,rfl,_,_,_,[],y++([]++[]),[],m,?_,?_,?_,World.keptBut_mono (fun x c=>⟨c,?_⟩) (k.frame _),fun h=>by cases h⟩
 .rw[o];exact trodAll_mk1 (shut_bool underlying4 _)
 .rw[o];exact(trodAll_cons_mk (WideElems.Trod_stays laidOut (by kernel_rfl) (of_decide_eq_true (by kernel_rfl)) B (fun x c=>k.same (d x c)) (fun x c=>by simpa using d x c)) (trodAll_cons_mk (shut_int underlying3 G) trodAll_mk0))
 .rw[o];rfl
 .simpa using c
theorem holds:Rows.GraphSubsSaid:=
 OpenClaim.holds_of_cond 3 f3 rfl rfl rfl rfl rfl rfl rfl ⟨rfl,rfl,rfl,rfl,rfl⟩ rfl rfl rfl rfl rfl (by kernel_rfl) func3 (by kernel_rfl)
  (of_decide_eq_true (by kernel_rfl)) (by unfold Func.isWrapper;rw[if_neg (of_decide_eq_false (by kernel_rfl))];exact⟨rfl,rfl⟩)
  (fun c a H b _ d=>by rw[OpenClaim.pre_eq_preRow];exact lifted c a H b d)
theorem proved:Rows.GraphSubsCardSaid:=
 Claim7.holds_tied_plain_at .later [] [.data,.data,.data,.data,.sentinel,.sentinel,.pinned] true (true,"e21c2625548052b9d96502561737ed5198ea11a3279504b4fd1a96ab4460f00d") true
  holds (fun _ h=>by cases h) (by kernel_rfl) (fun _ h=>by cases h) graphSubs_row_tie rfl ⟨rfl,rfl⟩ (by kernel_rfl) rfl
  (fun f g e b=>by
    obtain rfl:f=3:=Option.some.inj ((show prog.funcNamed "rosetta/rosettalaw10.GraphSubs" =some 3 by kernel_rfl).symm.trans e)|>.symm;obtain rfl:g=f3:=(Option.some.inj (func3.symm.trans b)).symm;exact⟨by kernel_rfl,fun j t c=>by
     rw[params3]at c;have d:t∈[24,3]:=by simpa using Array.mem_of_getElem? c
     have a:([24,3].all fun u=>!prog.wantsStandIn u)=true:=by kernel_rfl
     exact(show prog.wantsStandIn t=false by simpa using List.all_eq_true.1 a t d)⟩)
  (by kernel_rfl)
end Go.Proofs.YtpgmfihonmoliaaGreatDoor.graphSubs

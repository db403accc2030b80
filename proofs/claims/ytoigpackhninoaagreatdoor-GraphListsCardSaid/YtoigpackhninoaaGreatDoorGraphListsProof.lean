import Derived.Test.YtoigpackhninoaaGreatDoorZ24
import Derived.Test.YtoigpackhninoaaGreatDoorCards
import Derived.Test.YtoigpackhninoaaGreatDoorTie
/- 'GraphLists': for every input the law returns true, and each argument reads afterwards as it read before. No condition besides: the tables of the library that are listed are tied to the program's text by the card. -/
namespace Go.Proofs.YtoigpackhninoaaGreatDoor.graphLists
open _root_.Go.Proofs.Tryz
set_option maxRecDepth 100000
set_option maxHeartbeats 16000000
open Go.Shelf Go.Lib Go.ChangeShapes Go.WideShapes Go.ChangeAt Go.RowKit
open Go.ChangeMaps
theorem laidOut:laidOutB prog=true:=by kernel_rfl
theorem witness_row (os:Os) {H:Type} (enc:TypeId×Value->H):
 (OpenSpec.ofChange Rows.graphListsSpec).preRow enc prog f5 Rows.graphListsRow.domain false Rows.graphListsRow.laid ((laidWorld os).forCall (fun _ _=>0) ⟨#[],#[.slice none 0 0],[]⟩).memory #[.slice none 0 0]:=by
 have d:(DataW.whole enc prog ((laidWorld os).forCall (fun _ _=>0) ⟨#[],#[.slice none 0 0],[]⟩).memory f5.params.toList (OpenSpec.ofChange Rows.graphListsSpec).vars false #[Value.slice none 0 0].toList 8).map (fun x=>(x.1,x.2.1))=
  some ([.nil],[]):=by kernel_rfl
 obtain⟨⟨x1,x2,x3⟩,b,a⟩:=Option.map_eq_some_iff.1 d;simp only[Prod.mk.injEq]at a;obtain⟨rfl,rfl⟩:=a;exact OpenSpec.preRow_of_cond 8 b (by kernel_rfl) (fun k c=>by cases c) (by kernel_rfl) (zt4 os _)
theorem witness_ok (os:Os):Input.okWideB prog ((laidWorld os).forCall (fun _ _=>0) ⟨#[],#[.slice none 0 0],[]⟩) 5 ⟨#[],#[.slice none 0 0],[]⟩=true:=by kernel_rfl
theorem lifted (os:Os) (started:os.Started) (H:Type) (enc:TypeId×Value->H) (F:Stop.Interp):
 ReturnsInHanded {} checked os 5 .any ((OpenSpec.ofChange Rows.graphListsSpec).preRow enc prog f5 Rows.graphListsRow.domain false Rows.graphListsRow.laid) (((OpenSpec.ofChange Rows.graphListsSpec).at F).post enc prog f5 false true false false):=by
 refine returnsInHanded_of_row (C:=checked) (s:=OpenSpec.ofChange Rows.graphListsSpec) own started (by kernel_rfl) func5
  ⟨laidWorld os,fun _ _=>0,⟨#[],#[.slice none 0 0],[]⟩,World.laidAll_os _ _ _,World.shaped_of_ZipB (by kernel_rfl) (by kernel_rfl),(Input.okWide_of_okWideB (base:=0) (witness_ok os)).1,(Input.okWide_of_okWideB (witness_ok os)).2,witness_row os enc,by
   simp only[Assume.holds];exact⟨by simp,by simp,fun _=>Modest.zero,by simp,by simp⟩⟩ ?_
 intro W base args A gs before a n _ _ _ J _ _;have d:∀(j:Nat) t v,f5.params[j]? =some t->args[j]? =some v->Value.okWide prog W .any base t v:=a;have i:=n;obtain⟨p,q,k,f,rfl,_,_⟩:=n;have u:DataW.TrodAll enc prog W 0 (fun _=>true) true f5.params.toList args.toList A p:=k;rw[params5]at u d;obtain⟨m,vs0,w,ds0,r,q0,hargs,rfl,rfl,o,I⟩:=trodAll_cons u;obtain⟨rfl,rfl,rfl⟩:=trodAll_nil I;obtain rfl:args=#[m]:=by cases args;simp_all
 obtain⟨rfl,rfl⟩:=trodVars_none f;have y:=o;obtain⟨z,K,G,rfl,E,D⟩:=zj8 (d 0 37 m rfl rfl) o;have c:∀x,x∈r->x.block<W.heap.size:=fun x b=>i.lt x (by simp[b])
 clear k f a;have B:UT W:=znq J;refine(zno z K G D W B E).mono ?_;rintro e W' ⟨rfl,g⟩;have l:((OpenSpec.ofChange Rows.graphListsSpec).at F).fn H ([w]++[])={results:=[.lit (.bool true)],args:=[w]}:=rfl;refine⟨_,rfl,_,_,_,[],r++[],[],i,?_,?_,?_,World.keptBut_mono (fun x b=>⟨b,?_⟩) (g.frame _),fun h=>by cases h⟩
 ·rw[l];exact trodAll_mk1 (shut_bool underlying4 _)
 ·rw[l];exact(trodAll_cons_mk (WideElems.Trod_stays laidOut (by kernel_rfl) (of_decide_eq_true (by kernel_rfl)) y (fun x b=>g.same (c x b)) (fun x b=>by simpa using c x b)) trodAll_mk0)
 ·rw[l];rfl
 ·simpa using b
theorem holds:Rows.GraphListsSaid:=
 OpenClaim.holds_of_cond 5 f5 rfl rfl rfl rfl rfl rfl rfl ⟨rfl,rfl,rfl,rfl,rfl⟩ rfl rfl rfl rfl rfl (by kernel_rfl) func5 (by kernel_rfl)
  (of_decide_eq_true (by kernel_rfl)) (by unfold Func.isWrapper;rw[if_neg (of_decide_eq_false (by kernel_rfl))];exact⟨rfl,rfl⟩)
  (fun d a H b _ c=>by rw[OpenClaim.pre_eq_preRow];exact lifted d a H b c)
theorem proved:Rows.GraphListsCardSaid:=
 Claim7.holds_tied_plain_at .later [] [.data,.data,.data,.data,.sentinel,.sentinel,.pinned] true (true,"d3b1862469b883ffbb3bb63e268bd828b90ded3c43e025a915fe24e2cec11063") true
  holds (fun _ h=>by cases h) (by kernel_rfl) (fun _ h=>by cases h) graphLists_row_tie rfl ⟨rfl,rfl⟩ (by kernel_rfl) rfl
  (fun f g d b=>by
    obtain rfl:f=5:=Option.some.inj ((show prog.funcNamed "rosetta/rosettalaw10.GraphLists" =some 5 by kernel_rfl).symm.trans d)|>.symm;obtain rfl:g=f5:=(Option.some.inj (func5.symm.trans b)).symm;exact⟨by kernel_rfl,fun j t c=>by
     rw[params5]at c;have e:t∈[37]:=by simpa using Array.mem_of_getElem? c
     have a:([37].all fun u=>!prog.wantsStandIn u)=true:=by kernel_rfl
     exact(show prog.wantsStandIn t=false by simpa using List.all_eq_true.1 a t e)⟩)
  (by kernel_rfl)
end Go.Proofs.YtoigpackhninoaaGreatDoor.graphLists

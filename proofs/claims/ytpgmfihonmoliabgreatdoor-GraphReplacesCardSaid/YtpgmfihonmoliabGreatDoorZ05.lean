import Derived.Test.YtpgmfihonmoliabGreatDoorZ04
import Derived.Test.YtpgmfihonmoliabGreatDoorZ07
import Derived.Test.YtpgmfihonmoliabGreatDoorZ08
open _root_.Array renaming size_replicate->X5,size->G6,ext'->G7
open _root_.Go.RowKit.Below renaming refl->K1,drew->G5
open _root_.Go.Proofs.YtpgmfihonmoliabGreatDoor.Blk renaming new->Q4
open _root_.Bool renaming and_eq_true->K6,eq_iff_iff->Y1,not_eq_true->Y3,or_eq_true->U9,true_and->V3,not_eq_true'->V8,or_eq_false_iff->D7,not_eq_false->F0
open _root_.Go.Proofs.YtpgmfihonmoliabGreatDoor.Calls renaming grow->X3
open _root_.Go renaming bodyPost_ret->J1,results_cell_tmp->J2
open _root_.Go.Proofs.YtpgmfihonmoliabGreatDoor.Gr renaming Str->K2,rd->Y8,Mo->U7,dig->V2,pd->Z6,fA->Z7,text->W2,marks->W5,fT->E5,refs->F9
open _root_.Int renaming tmod_lt_of_pos->E9,toNat_natCast->F4
open _root_.Go.IntWalk renaming i64_in->Z3
open _root_.Go.Lib renaming decDigits->Q9,parseUintB->Y4,atoiAll->X1,hid->X6,nDigits->X7,bytesWorld_below->X8,zeros24->U3,indexByte->U4,decDigits_length->V0,trimPrefix->W0,itoa->W1,hasPrefix->W6,bitLen->E8,repeatL->J0
open _root_.List renaming getElem?_eq_getElem->K0,getElem_mem->K3,getD_eq_getElem?_getD->K5,range->K7,all_eq_true->K8,replicate->K9,mem_range->Q0,mem_append_left->Q2,mem_append_right->Q3,length_map->Q5,length_append->Q8,mem_flatMap->Y0,any_eq_false->Y2,take_of_length_le->Y5,mem_iff_getElem->Y6,mem_map->Y7,mem_append->Y9,mem_singleton->X0,take_succ_eq_append_getElem->X2,any_eq_true->X4,length_zip->X9,length_reverse->U0,getElem?_eq_some_iff->U2,length_cons->U5,getElem_zip->U6,map_append->U8,map_congr_left->V1,count_pos_iff->V4,count_append->V7,takeWhile_append_dropWhile->Z0,getElem_map->Z1,eq_nil_of_length_eq_zero->Z2,all_append->Z5,pairwise_iff_getElem->Z8,drop_eq_getElem_cons->Z9,map_cons->W3,getElem_append_left->W4,toArray->W8,takeWhile_sublist->W9,dropWhile_sublist->D0,take_append_drop->D1,set_append_right->D2,getElem_set_self->D3,countP_le_length->D4,set_append_left->D6,mem_map_of_mem->D9,getElem_set_ne->E0,getElem_of_mem->E1,countP_pos_iff->E2,set_cons_zero->E3,getElem_range->E4,pairwise_map->E7,take_length->F1,length_take->F2,length_tail->F3,range_succ->F5,nodup_cons->F6,mem_filter->F7,foldl_cons->F8,all_map->G1,Nodup->G9
open _root_.Nat renaming le_refl->K4,le_of_lt->Q6,zero_le->Q7,le_trans->U1,lt_or_ge->V9,add_mul->Z4,mul_le_mul_right->D8,zero_mul->G2,zero_add->G3,mul_comm->G4
open _root_.Option renaming getD_some->V6
open _root_.Go.Proofs.YtpgmfihonmoliabGreatDoor.OwnRow renaming nil->D5
open _root_.Go.Proofs.YtpgmfihonmoliabGreatDoor.RT renaming v->W7
open _root_.Go.Proofs.YtpgmfihonmoliabGreatDoor.RowAt renaming nil->G8
open _root_.Go.Proofs.YtpgmfihonmoliabGreatDoor.SV renaming nil->V5,v->G0
open _root_.Go.Proofs.YtpgmfihonmoliabGreatDoor.UT renaming stays->Q1
open _root_.Go.World renaming size_alloc->E6
namespace Go.Proofs.YtpgmfihonmoliabGreatDoor
namespace Gr
theorem zo5 (L:List Nat):∀(l:List Nat) (x:Nat),x<l.length->(L.foldl cstep l).getD x 0=l.getD x 0+L.count x:=by
 induction L with
 |nil=>intro l x _;simp
 |cons y L ih=>
  intro l x a;rw[F8,ih (cstep l y) x (by unfold cstep;simpa using a)];unfold cstep;by_cases h:y=x
  .grind
  .grind
theorem zcx {ns:List Nd} {root x:Nat} (hx:x<ns.length):(counts ns root).getD x 0=(if x=root then 1 else 0)+(refs ns).count x:=by
 unfold counts;rw[zo5 _ _ _ (by unfold cstep;simpa using hx)]
 congr 1
 unfold cstep;have e:∀y,(K9 ns.length 0).getD y 0=0:=fun y=>by simp[K5,List.getElem?_replicate];split<;>rfl
 by_cases h:x=root
 .grind
 .grind
theorem zka (a b:List Nd):refs (a++b)=refs a++refs b:=by unfold refs;rw[List.flatMap_append]
theorem ztl {ns:List Nd} {a b:Nat} (ha:a<ns.length) (hb:b∈succ ns a):b∈refs ns:=by
 unfold succ at hb;rw[K0 ha]at hb;exact Y0.2 ⟨_,K3 ha,hb⟩
theorem zld {ns:List Nd} {a p b:Nat} (hap:p<a) (ha:a<ns.length) (h1:b∈succ ns a) (h2:b∈succ ns p):2<=(refs ns).count b:=by
 have e:refs ns=refs (ns.take a)++refs (ns.drop a):=by rw[<-zka,D1]
 rw[e,V7];have d:b∈refs (ns.take a):=by
  unfold succ at h2;rw[K0 (by omega)]at h2;refine Y0.2 ⟨ns[p],?_,h2⟩;rw[List.mem_take_iff_getElem];exact⟨p,by omega,rfl⟩
 have c:b∈refs (ns.drop a):=by
  unfold succ at h1;rw[K0 ha]at h1;refine Y0.2 ⟨ns[a],?_,h1⟩;rw[List.mem_drop_iff_getElem];exact⟨0,by omega,by simp⟩
 have:=V4.2 d;have:=V4.2 c;omega
section
variable {ns:List Nd} {root:Nat}
theorem Reach.last {sc:Nat->List Nat} {a b:Nat} (h:Reach sc a b):a=b\/∃p,Reach sc a p/\b∈sc p:=by
 induction h with
 |refl=>exact .inl rfl
 |step h1 h2 ih=>
  rcases ih with rfl|⟨p,h3,h4⟩
  .exact .inr ⟨_,.refl _,h1⟩
  .exact .inr ⟨p,.step h1 h3,h4⟩
theorem zg7 (hr:Refs ns) (hroot:root<ns.length) (hall:∀v,v<ns.length->Reach (succ ns) root v) (hone:∀x,x<ns.length->mkd (inKeys ns) x=true->(counts ns root).getD x 0=1) {i x:Nat} (hi:i<ns.length) (hk:mkd (inKeys ns) i=true) (hx:x∈succ ns i):¬Reach (succ ns) x i:=by
 intro z;have n:∀a,a<ns.length->∀b,Reach (succ ns) a b->b<ns.length:=fun a u b h=>h.closed (p:=fun a=>a<ns.length) (fun a _ b l=>hr.succ a b l) u
 have m:∀j,Reach (succ ns) i j->mkd (inKeys ns) j=true:=fun j A=>by
  obtain⟨k,c,f⟩:=(zax hr i).1 hk;exact(zax hr j).2 ⟨k,c,f.trans A⟩
 have d:∀j,Reach (succ ns) i j->Reach (succ ns) j i->∃p,Reach (succ ns) i p/\Reach (succ ns) p i/\j∈succ ns p:=by
  intro j c f;have g:Reach (succ ns) x j:=z.trans c;rcases g.last with h4|⟨p,h4,h5⟩
  .subst h4;exact⟨i,.refl _,.refl _,hx⟩
  .exact⟨p,.step hx h4,.step h5 f,h5⟩
 have q:¬(Reach (succ ns) i i/\Reach (succ ns) i i):=by
  have y:∀v,Reach (succ ns) root v->¬(Reach (succ ns) i v/\Reach (succ ns) v i):=by
   intro v B;refine B.closed (p:=fun v=>¬(Reach (succ ns) i v/\Reach (succ ns) v i)) ?_ ?_
   .rintro a u b l ⟨c,f⟩;obtain⟨p,g,h4,h5⟩:=d b c f;have o:=hr.succ a b l;have w:a≠p:=fun e=>u (e▸⟨g,h4⟩)
    have s:=n i hi p g;have r:a<ns.length:=by
     unfold succ at l;rcases V9 a ns.length with h|h
     .exact h
     .grind
    have t:=hone b o (m b c);rw[zcx o]at t;have:2<=(refs ns).count b:=by
     rcases Nat.lt_or_gt_of_ne w with h|h
     .exact zld h s h5 l
     .exact zld h r l h5
    omega
   .rintro⟨c,f⟩;obtain⟨p,g,h4,h5⟩:=d root c f;have t:=hone root hroot (m root c);rw[zcx hroot,if_pos rfl]at t;have:=V4.2 (ztl (n i hi p g) h5);omega
  exact y i (hall i hi)
 exact q ⟨.refl _,.refl _⟩
open Classical in
theorem zwl (hr:Refs ns) (hroot:root<ns.length) (hall:∀v,v<ns.length->Reach (succ ns) root v) (hone:∀x,x<ns.length->mkd (inKeys ns) x=true->(counts ns root).getD x 0=1):∀(f i:Nat),i<ns.length->mkd (inKeys ns) i=true->(K7 ns.length).countP (fun j=>decide (Reach (succ ns) i j))<=f->Tall ns f i:=by
 intro f
 induction f with
 |zero=>
  intro i a _ h;have:0<(K7 ns.length).countP (fun j=>decide (Reach (succ ns) i j)):=E2.2 ⟨i,Q0.2 a,by simpa using Reach.refl i⟩;omega
 |succ f ih=>
  intro i a e h x b;have c:=hr.succ i x b;have d:mkd (inKeys ns) x=true:=by
   obtain⟨k,g,m⟩:=(zax hr i).1 e;exact(zax hr x).2 ⟨k,g,m.trans (.one b)⟩
  refine ih x c d ?_;have:=zdj (fun j=>decide (Reach (succ ns) x j)) (fun j=>decide (Reach (succ ns) i j)) (K7 ns.length) (fun j _ l=>by simpa using Reach.step b (by simpa using l)) i (Q0.2 a) (by simpa using zg7 hr hroot hall hone a e b) (by simpa using Reach.refl i);omega
theorem zfc (hr:Refs ns) (hroot:root<ns.length) (hall:∀v,v<ns.length->Reach (succ ns) root v) (hone:∀x,x<ns.length->mkd (inKeys ns) x=true->(counts ns root).getD x 0=1):∀k∈allKeys ns,k<ns.length/\Tall ns ns.length k:=by
 intro k c;have a:k<ns.length:=by
  obtain⟨y,d,b⟩:=Y0.1 c;exact hr y d k (Q2 _ b)
 exact⟨a,zwl hr hroot hall hone _ k a ((zax hr k).2 ⟨k,c,.refl _⟩) (U1 D4 (by simp))⟩
end
end Gr
open Gr
open _root_.Go.Proofs.Tryz
open _root_.Go.Lib (hid)
set_option maxRecDepth 100000
set_option maxHeartbeats 16000000
open Go.RowKit
def NH (ns:List Gr.Nd):Prop:=∀n∈ns,n.keys.length<=1073741823/\n.items.length<=1073741823/\n.text.length<=1073741823
theorem zms (ns:List Gr.Nd) (h:NH ns):(F9 ns).length<=ns.length*2147483646:=by
 induction ns with
 |nil=>simp[F9]
 |cons x l ih=>
  have h1:=ih (fun n a=>h n (.tail _ a));obtain⟨h2,h3,_⟩:=h x (.head _);have e:F9 (x::l)=(x.keys++x.items)++F9 l:=rfl;rw[e,Q8,Q8,U5,Z4];omega
theorem zo6 {ns:List Gr.Nd} {i:Nat} (h:i<ns.length):ns.getD i ⟨0,[],false,[],[]⟩=ns[i]:=by
 rw[K5,K0 h];rfl
theorem zf9 (k:Nat) (f:Nat->Bool):(K7 (k+1)).all f=((K7 k).all f && f k):=by
 rw[F5,Z5];simp
theorem zga (k:Nat) (f:Nat->Bool):(K7 (k+1)).any f=((K7 k).any f || f k):=by
 rw[F5,List.any_append];simp
def ScalsOk (T:World->Prop) (sclr:Int->K2->Bool) (ns:List Gr.Nd):Prop:=∀x∈ns,x.kind≠9->x.kind≠10->x.kind≠11->x.ord=false->x.keys=[]->x.items=[]->ScalOk T x.kind x.text (sclr x.kind x.text)
section
variable (sclr:Int->K2->Bool) (ns:List Gr.Nd) (root:Nat)
def ok1 (i:Nat):Bool:=(marks ns root).getD i false && formB sclr (ns.getD i ⟨0,[],false,[],[]⟩)
def bad2 (i:Nat):Bool:=(inKeys ns).getD i false && (counts ns root).getD i 0 != 1
theorem zo7:checkN sclr ns root=if(K7 ns.length).all (ok1 sclr ns root)=false then 3 else if(K7 ns.length).any (bad2 ns root)=true then 3 else if twice ns ns.length=true then 8 else if(depth ns root).1>32 then 5 else 0:=by
 unfold checkN;have a:(K7 ns.length).all (ok1 sclr ns root)=(K7 ns.length).all (fun i=>(marks ns root).getD i false && formB sclr (ns.getD i ⟨0,[],false,[],[]⟩)):=rfl;have b:(K7 ns.length).any (bad2 ns root)=(K7 ns.length).any (fun i=>(inKeys ns).getD i false && (counts ns root).getD i 0 != 1):=rfl;rw[a,b];cases(K7 ns.length).all (fun i=>(marks ns root).getD i false && formB sclr (ns.getD i ⟨0,[],false,[],[]⟩))<;>simp
end
theorem zz0 {sclr:Int->K2->Bool} {ns:List Gr.Nd} {root:Nat} (h:(K7 ns.length).all (ok1 sclr ns root)=true):Gr.KF ns/\(∀i,i<ns.length->mkd (marks ns root) i=true):=by
 rw[K8]at h;refine⟨fun n e d=>?_,fun i b=>?_⟩
 .obtain⟨i,b,rfl⟩:=E1 e;have a:=h i (Q0.2 b);unfold ok1 at a;rw[zo6 b,K6]at a;have c:=a.2;unfold formB at c;rw[d]at c;simp at c;exact c.2
 .have a:=h i (Q0.2 b);unfold ok1 at a;rw[K6]at a;exact a.1
theorem zmt (T:World->Prop) (hT:Stays T) (sclr:Int->K2->Bool) (A:Option Addr) (c root:Nat) (vs:List NV) (is:List Gr.Ni) (ns:List Gr.Nd) (hns:is.map Gr.Ni.nd=ns) (hn0:0<ns.length) (hn:ns.length<=4096) (hks:NH ns) (hin:indB is (root:Int)=true)
 (hsc:ScalsOk T sclr ns) (w:World) (hTw:T w) (h:IAt w w.heap.size A vs is):
 Calls prog 14 #[.agg #[.slice A ns.length c,.int .i64 root]] w fun e w'=>e=.returned (.int .i64 (checkN sclr ns root:Nat))/\Below w.heap.size w w':=by
 have ag:is.length=ns.length:=by rw[<-hns];simp
 have aI:=hin;unfold indB at hin;rw[K6]at hin;have b:root<ns.length:=by
  have:=hin.1;unfold inR at this;simp at this;omega
 obtain⟨h0,B⟩:=za1 hin.2;rw[hns]at B;have hG:GAt w w.heap.size A vs ns:=by rw[<-hns];exact h.toG h0
 have l:∀n∈ns,n.keys.length<=1073741823/\n.items.length<=1073741823:=fun n hn=>⟨(hks n hn).1,(hks n hn).2.1⟩
 have hl:ns.length<=1073741823:=by omega
 have aG:Hid (∀W,Below w.heap.size w W->Calls prog 29 #[.agg #[.slice A ns.length c,.int .i64 (root:Int)]] W fun e w'=>e=.returned (.bool true)/\Below W.heap.size W w'):=hid (fun W C=>by
  have:=zfa A c (root:Int) vs is (by omega) (fun n L=>by
   have:=hks n.nd (by rw[<-hns];exact D9 L);simp only[Gr.Ni.nd,Q5]at this;exact⟨this.1,this.2.1⟩) W ((h.below C).more C.size)
  rw[ag,aI]at this;exact this)
 have HG:=hid hG;have hmk:=fun W=>zbq ns.length (by omega) W
 have a8:=hid hTw;have hnI:(ns.length:Int)<=4096:=by omega
 have hn0I:(0:Int)<(ns.length:Int):=by omega
 have hn0b:((ns.length:Int)==0)=false:=by rw[qqq];omega
 have a7:=hid hsc;have N:=hid (zo7 sclr ns root);clear hns hin aI h0 hG hTw h hsc ag;go_enter func14,ntmps14;go_upto_region 1 with fail;obtain⟨a,X⟩:=ex (w.alloc (.cells #[.slice A ns.length c,.int .i64 root] 24))
 (try rw[X]);have P:Below w.heap.size w a:=by rw[<-X];exact(K1 _ _).alloc (K4 _) _
 have Z:Blk a w.heap.size 24 #[.slice A ns.length c,.int .i64 root]:=by rw[<-X];exact Q4 _ _ _
 obtain⟨gb,S⟩:=ex w.heap.size
 have HGB:=hid S;have L1:=hid P;(try rw[S]);rw[S]at Z;have HB1:=hid Z;have HS:Hid (∀W,Below a.heap.size a W->W.cell? ⟨gb,0,none⟩=some (.slice A ns.length c)/\W.cell? ⟨gb,1,none⟩=some (.int .i64 (root:Int))):=hid (fun W C=>⟨(Z.below C Z.lt).cell 0,(Z.below C Z.lt).cell 1⟩);have HGL:Hid (gb<a.heap.size):=hid Z.lt;have K:Hid (∀W,Below a.heap.size a W->GAt W W.heap.size A vs ns):=hid (fun W C=>(HG.out.below (P.trans (C.mono P.size))).more (P.trans (C.mono P.size)).size);have j:Hid (∀W,Below a.heap.size a W->Below w.heap.size w W):=hid (fun W C=>P.trans (C.mono P.size));have aH:=aG.out a P;have a9:=hid aH;obtain⟨g0,g1⟩:=HS.out a (K1 _ _);clear X S P Z aH;go_wp2_with fail;refine a9.out.mono ?_;rintro e w2 ⟨rfl,ap⟩;obtain⟨p0,p1⟩:=HS.out w2 ap;have ax:=hid ap;clear g0 g1 ap;go_upto_region 6 with fail;obtain⟨w3,M⟩:=ex (w2.alloc (.cells (bcells (K9 ns.length false)) 4))
 obtain⟨U,Q⟩:=ex w2.heap.size
 have l3:Below a.heap.size a w3:=by rw[<-M];exact ax.out.alloc ax.out.size _
 have b3:Blk w3 U 4 (bcells (K9 ns.length false)):=by rw[<-M,<-Q];exact Q4 _ _ _
 have ab:a.heap.size<=U:=by rw[<-Q];exact ax.out.size
 have HR:=hid (zc6 U A c (root:Int) vs ns w.heap.size B hl l (K9 ns.length false) root w3 (HG.out.below (j.out w3 l3)) (by have:=L1.out.size;omega) b3 (by simp) b (zc5 _));have HB3:=hid b3;have L3:=hid l3;have bb:=hid ab;rw[M];(try rw[Q]);obtain⟨q0,q1⟩:=HS.out w3 l3;clear M Q l3 b3 p0 p1 ab;go_wp2_with fail;refine HR.out.mono ?_;rintro e O ⟨rfl,aN,aA⟩;have an:Below a.heap.size a O:=L3.out.trans (KB.below (g:=U) aN bb.out L3.out.size);have aC:Hid (Blk O U 4 (bcells (marks ns root))):=hid aA;have bc:Hid ((marks ns root).length=ns.length):=hid (zbu B.succ ns.length (K9 ns.length false) root (by simp) b (zc5 _)).len;have L4:=hid an;obtain⟨p0,p1⟩:=HS.out O an;clear aN aA an q0 q1;go_upto_region 8 with fail;clear p0 p1;go_loopw [36] (fun s36 wr=>∃i:Nat,i<=ns.length/\s36=.int .i64 i/\Hid (Below a.heap.size a wr/\Below O.heap.size O wr/\(K7 i).all (ok1 sclr ns root)=true)) (fun s36 _=>ns.length-(intOf s36).toNat)
 case atStart=>exact⟨0,by omega,rfl,hid ⟨L4.out,K1 _ _,by simp⟩⟩
 case round=>
  obtain⟨i,hi,rfl,s⟩:=hrel;obtain⟨m,aY⟩:∃m,m=wr:=⟨_,rfl⟩
  subst aY;by_cases hlt:i<ns.length
  .have aT:(i:Int)<(ns.length:Int):=by omega
   obtain⟨ad,ks,is,rfl,R⟩:=(K.out m s.out.1).node hlt;obtain⟨ka,kn,kc⟩:=ks;obtain⟨ia,ba,ic⟩:=is;have L:ns[i]∈ns:=K3 hlt;obtain⟨z,aD,aF⟩:=hks _ L;have aa:=hid (a7.out _ L);have ak:Hid (ok1 sclr ns root i=((marks ns root).getD i false && formB sclr ns[i])):=hid (by unfold ok1;rw[zo6 hlt]);obtain⟨n,hn⟩:=ex (ns[i])
   rw[hn]at R z aD aF aa ak;obtain rfl:kn=n.keys.length:=R.kn;obtain rfl:ba=n.items.length:=R.inn;have x0:=R.c0;have x1:=R.c1;have x2:=R.c2;have x3:=R.c3;have x4:=R.c4;obtain⟨mk,r⟩:=ex ((marks ns root).getD i false)
   have ao:Blk m U 4 (bcells (marks ns root)):=aC.out.below s.out.2.1 aC.out.lt;have m0:m.cell? ⟨U,i,none⟩=some (.bool mk):=by rw[ao.cell,zae (by rw[bc.out];exact hlt),r]
   have D:Hid ((K7 (i+1)).all (ok1 sclr ns root)=(mk && formB sclr n)):=hid (by rw[zf9,s.out.2.2,ak.out,r];rfl);have d:Hid ((mk && formB sclr n)=false->checkN sclr ns root=3):=hid (fun e=>by
    rw[N.out,if_pos];rw[List.all_eq_false];exact⟨i,Q0.2 hlt,by rw[ak.out,r,e];simp⟩)
   have E:Below m.heap.size m (m.alloc (.cells #[.int .i64 n.kind,.string ⟨n.text.toArray⟩,.bool n.ord,.slice ka n.keys.length kc,.slice ia n.items.length ic] 37)):=(K1 _ _).alloc (K4 _) _;have HF:=hid (ztd T hT sclr n.kind n.text n.ord n.keys n.items ka ia kc ic aF z aD (fun a1 a2 a3 a4 a5 a6=>aa.out a1 a2 a3 a4 a5 a6) _ (hT _ _ a8.out ((j.out m s.out.1).trans (E.mono (j.out m s.out.1).size))));have m1:(m.alloc (.cells #[.int .i64 n.kind,.string ⟨n.text.toArray⟩,.bool n.ord,.slice ka n.keys.length kc,.slice ia n.items.length ic] 37)).cell? ⟨U,i,none⟩=some (.bool mk):=(E.cell (p:=⟨U,i,none⟩) ao.lt).trans m0;obtain⟨fb,am⟩:=ex (formB sclr n)
   rw[am]at D d;have aQ:formB sclr ⟨n.kind,n.text,n.ord,n.keys,n.items⟩=fb:=am;rw[aQ]at HF;have F:Hid (Below a.heap.size a (m.alloc (.cells #[.int .i64 n.kind,.string ⟨n.text.toArray⟩,.bool n.ord,.slice ka n.keys.length kc,.slice ia n.items.length ic] 37))/\Below O.heap.size O (m.alloc (.cells #[.int .i64 n.kind,.string ⟨n.text.toArray⟩,.bool n.ord,.slice ka n.keys.length kc,.slice ia n.items.length ic] 37))):=hid ⟨s.out.1.trans (E.mono s.out.1.size),s.out.2.1.trans (E.mono s.out.2.1.size)⟩;clear R L hn ao r am aQ E;cases mk with
   |false=>
    go_wp2;go_ret;rw[d.out rfl];exact⟨rfl,j.out _ F.out.1⟩
   |true=>
    clear m0;go_wp2_with fail;refine HF.out.mono ?_;rintro e w6 ⟨rfl,al⟩;have ay:Hid (Below a.heap.size a w6/\Below O.heap.size O w6):=hid ⟨F.out.1.trans (al.mono F.out.1.size),F.out.2.trans (al.mono F.out.2.size)⟩;clear al;cases fb with
    |false=>
     go_wp2;go_ret;rw[d.out rfl];exact⟨rfl,j.out _ ay.out.1⟩
    |true=>
     go_wp2;go_roundw
     case rel=>exact⟨i+1,by omega,by go_num,hid ⟨ay.out.1,ay.out.2,by rw[D.out];rfl⟩⟩
     case measure=>simp[intOf];omega
  .have aT:¬(i:Int)<(ns.length:Int):=by omega
   have o:(K7 ns.length).all (ok1 sclr ns root)=true:=by
    have:=s.out.2.2;rwa[show i=ns.length from by omega]at this
   obtain⟨aB,u⟩:=zz0 o;have t:∀v,v<ns.length->Gr.Reach (Gr.succ ns) root v:=fun v hv=>(za3 B b v).1 (u v hv)
   have aW:=hid aB;have q:=hid t;have av:=hid o;have HC:=hid (zgg A c root vs ns B hl l (by have:=zms ns hks;omega) m (K.out m s.out.1) b);obtain⟨p0,p1⟩:=HS.out m s.out.1;clear aB u t o;go_upto_region 13 with fail;go_wp2_with fail;refine HC.out.mono ?_;rintro e w7 ⟨cb,rfl,aZ,az,aK⟩;have V:Hid (Below a.heap.size a w7):=hid (s.out.1.trans (az.mono s.out.1.size));have aO:=hid aK;have HK:=hid (zgh A c (root:Int) vs ns B hl l w7 (K.out w7 V.out));obtain⟨q0,q1⟩:=HS.out w7 V.out;clear aZ az aK p0 p1;go_wp2_with fail;refine HK.out.mono ?_;rintro e w8 ⟨kb,rfl,bd,au,aE⟩;have J:Hid (Below a.heap.size a w8):=hid (V.out.trans (au.mono V.out.size));have aS:=hid (aO.out.below au aO.out.lt);have aX:=hid aE;have aV:Hid ((inKeys ns).length=ns.length/\(counts ns root).length=ns.length):=hid ⟨ze4 B _ _ (zj5 B) (by simp),by unfold counts;rw[zbv,zb5];simp⟩;clear bd au aE q0 q1;go_upto_region 15 with fail;go_loop [57] (fun s57=>∃k:Nat,k<=ns.length/\s57=.int .i64 k/\Hid ((K7 k).any (bad2 ns root)=false)) (fun s57=>ns.length-(intOf s57).toNat)
   case atStart=>exact⟨0,by omega,rfl,hid (by simp)⟩
   case round=>
    obtain⟨k,hk,rfl,HV⟩:=hrel;by_cases z:k<ns.length
    .have aM:(k:Int)<(ns.length:Int):=by omega
     obtain⟨ik,aq⟩:=ex ((inKeys ns).getD k false)
     obtain⟨cv,aj⟩:=ex ((counts ns root).getD k 0)
     have z0:w8.cell? ⟨kb,k,none⟩=some (.bool ik):=by rw[aX.out.cell,zae (by rw[aV.out.1];exact z),aq]
     have z1:w8.cell? ⟨cb,k,none⟩=some (.int .i64 (cv:Int)):=by rw[aS.out.cell,zaa (by rw[aV.out.2];exact z),aj]
     have aU:Hid (bad2 ns root k=(ik && cv != 1)):=hid (by unfold bad2;rw[aq,aj]);have D:Hid ((K7 (k+1)).any (bad2 ns root)=(ik && cv != 1)):=hid (by rw[zga,HV.out,aU.out];rfl);have d:Hid ((ik && cv != 1)=true->checkN sclr ns root=3):=hid (fun e=>by
      rw[N.out,if_neg (by rw[av.out];simp),if_pos];exact X4.2 ⟨k,Q0.2 z,by rw[aU.out,e]⟩)
     clear aq aj;cases ik with
     |false=>
      clear z1;go_wp2;go_round
      case rel=>exact⟨k+1,by omega,by go_num,hid (by rw[D.out];rfl)⟩
      case measure=>simp[intOf];omega
     |true=>
      by_cases hc1:cv=1
      .subst hc1;go_wp2;go_round
       case rel=>exact⟨k+1,by omega,by go_num,hid (by rw[D.out];rfl)⟩
       case measure=>simp[intOf];omega
      .have aP:¬((cv:Int)=1):=by omega
       have hc1b:((cv:Int)==1)=false:=by rw[qqq];exact aP
       have aR:Hid (checkN sclr ns root=3):=hid (d.out (by simpa using hc1));go_wp2;go_ret;rw[aR.out];exact⟨rfl,j.out _ J.out⟩
    .have aM:¬(k:Int)<(ns.length:Int):=by omega
     have I:(K7 ns.length).any (bad2 ns root)=false:=by
      have:=HV.out;rwa[show k=ns.length from by omega]at this
     have ai:∀x,x<ns.length->mkd (inKeys ns) x=true->(counts ns root).getD x 0=1:=fun x hx hm=>by
      have:=(Y2.1 I) x (Q0.2 hx);unfold bad2 at this;unfold mkd at hm;rw[hm]at this;simpa using this
     have f:=zfc B b q.out ai;have Y:=hid (zo4 ns.length A c (root:Int) vs ns B hl l (fun x hx y hy W C=>ztk A c (root:Int) vs ns B aW.out hl hks ns.length x y W (f x hx).1 (f y hy).1 (f x hx).2 C) w8 (K.out w8 J.out));have ac:=hid I;obtain⟨p0,p1⟩:=HS.out w8 J.out;obtain⟨tw,aw⟩:=ex (twice ns ns.length)
     rw[aw]at Y;have ae:=hid aw;clear I ai f aw;go_wp2_with fail;refine Y.out.mono ?_;rintro e w9 ⟨rfl,aJ⟩;have G:Hid (Below a.heap.size a w9):=hid (J.out.trans (aJ.mono J.out.size));clear aJ;cases tw with
     |true=>
      have d:Hid (checkN sclr ns root=8):=hid (by rw[N.out,if_neg (by rw[av.out];simp),if_neg (by rw[ac.out];simp),if_pos ae.out]);go_wp2;go_ret;rw[d.out];exact⟨rfl,j.out _ G.out⟩
     |false=>
      have H:Hid (checkN sclr ns root=if(depth ns root).1>32 then 5 else 0):=hid (by rw[N.out,if_neg (by rw[av.out];simp),if_neg (by rw[ac.out];simp),if_neg (by rw[ae.out];simp)]);have HD:=hid (zii A c root vs ns B hl l b q.out w9 (K.out w9 G.out));obtain⟨q0,q1⟩:=HS.out w9 G.out;obtain⟨dv,ar⟩:=ex ((depth ns root).1)
      obtain⟨da,aL⟩:=ex ((depth ns root).2)
      rw[ar]at H;rw[ar,aL]at HD;clear ar aL p0 p1;go_wp2_with fail;refine HD.out.mono ?_;rintro e a0 ⟨rfl,af⟩;have ah:Hid (Below a.heap.size a a0):=hid (G.out.trans (af.mono G.out.size));clear af;by_cases hd:dv>32
      .have d:Hid (checkN sclr ns root=5):=hid (by rw[H.out,if_pos hd]);go_wp2;go_ret;rw[d.out];exact⟨rfl,j.out _ ah.out⟩
      .have d:Hid (checkN sclr ns root=0):=hid (by rw[H.out,if_neg hd]);go_wp2;go_ret;rw[d.out];exact⟨rfl,j.out _ ah.out⟩
def checkI (sclr:Int->K2->Bool) (is:List Gr.Ni) (root:Int):Nat:=
 if is.length>4096 then 7 else if is.length=0\/indB is root=false then 3 else checkN sclr (is.map Gr.Ni.nd) root.toNat
theorem zfd (T:World->Prop) (hT:Stays T) (sclr:Int->K2->Bool) (A:Option Addr) (c:Nat) (root:Int) (vs:List NV) (is:List Gr.Ni) (hks:NH (is.map Gr.Ni.nd)) (hsc:ScalsOk T sclr (is.map Gr.Ni.nd)) (hl:is.length<=1073741823) (w:World) (hTw:T w) (h:IAt w w.heap.size A vs is):
 Calls prog 14 #[.agg #[.slice A is.length c,.int .i64 root]] w fun e w'=>e=.returned (.int .i64 (checkI sclr is root:Nat))/\Below w.heap.size w w':=by
 by_cases h1:is.length>4096
 .have g:Hid (checkI sclr is root=7):=hid (by unfold checkI;rw[if_pos h1]);have f:(4096:Int)<(is.length:Int):=by omega
  clear hsc hks hTw h;go_enter func14,ntmps14;go_wp2;go_ret;rw[g.out];exact⟨rfl,(K1 _ _).alloc (K4 _) _⟩
 .have f:¬(4096:Int)<(is.length:Int):=by omega
  by_cases h2:is.length=0
  .have g:Hid (checkI sclr is root=3):=hid (by unfold checkI;rw[if_neg h1,if_pos (.inl h2)]);obtain rfl:=Z2 h2;clear hsc hks hTw h h1 f h2;go_enter func14,ntmps14;go_wp2;go_ret;rw[g.out];exact⟨rfl,(K1 _ _).alloc (K4 _) _⟩
  .have h2b:((is.length:Int)==0)=false:=by rw[qqq];omega
   cases hin:indB is root with
   |false=>
    have g:Hid (checkI sclr is root=3):=hid (by unfold checkI;rw[if_neg h1,if_pos (.inr hin)]);obtain⟨l,b⟩:=ex (w.alloc (.cells #[.slice A is.length c,.int .i64 root] 24))
    have i:Below w.heap.size w l:=by rw[<-b];exact(K1 _ _).alloc (K4 _) _
    have j:=zfa A c root vs is hl (fun n q=>by
     have:=hks n.nd (D9 q);simp only[Gr.Ni.nd,Q5]at this;exact⟨this.1,this.2.1⟩) l ((h.below i).more i.size)
    rw[hin]at j;have p:=hid j;have o:=hid i;clear hsc hks hTw h hin j i;go_enter func14,ntmps14;go_upto_region 1 with fail;have m:Blk l w.heap.size 24 #[.slice A is.length c,.int .i64 root]:=by rw[<-b];exact Q4 _ _ _
    obtain⟨g0,g1⟩:=cells2 m;(try rw[b]);clear b m;go_wp2_with fail;refine p.out.mono ?_;rintro e w2 ⟨rfl,d⟩;have k:=hid (o.out.trans (d.mono o.out.size));clear d;go_wp2;go_ret;rw[g.out];exact⟨rfl,k.out⟩
   |true=>
    have a:=hin;unfold indB at a;rw[K6]at a;have hr0:0<=root:=by have:=a.1;unfold inR at this;simp at this;exact this.1
    obtain⟨r,rfl⟩:∃r:Nat,root=(r:Int):=⟨root.toNat,by omega⟩
    have:=zmt T hT sclr A c r vs is (is.map Gr.Ni.nd) rfl (by simp;omega) (by simp;omega) hks hin hsc w hTw h;rw[Q5]at this;have e:checkI sclr is (r:Int)=checkN sclr (is.map Gr.Ni.nd) r:=by
     unfold checkI;rw[if_neg h1,if_neg (by rw[hin];simp[h2]),F4]
    rw[e];exact this
theorem zix (text:K2):ScalOk UT 0 text text.isEmpty:=by
 intro w _;have ht:=zg4 text;go_enter func27,ntmps27;go_wp2;go_ret;exact⟨rfl,K1 _ _⟩
theorem zeu (text:K2) (hl:text.length<=1073741823):ScalOk UT 2 text (Gr.intB text):=by
 intro w _;have b:=X6 (fun W=>zel text hl W);obtain⟨r,a⟩:=ex (Gr.intB text)
 rw[a]at b ⊢;clear a;go_enter func27,ntmps27;go_wp2_with fail;refine(b.out _).mono ?_;rintro e w2 ⟨rfl,c⟩;have d:=X6 c;clear c;go_wp2;go_ret;exact⟨rfl,d.out⟩
def utfB (s:K2):Bool:=(Utf.bad s).isNone
theorem zff (text:K2) (hl:text.length<=1073741823):ScalOk UT 5 text (utfB text):=by
 intro w c;have a:=X6 (zg3 text hl w c.1 c.2 _ rfl);unfold utfB;cases hr:Utf.bad text with
 |none=>
  rw[hr]at a;unfold ckVal at a;simp only at a;clear hr c;go_enter func27,ntmps27;go_wp2_with fail;refine a.out.mono ?_;rintro e f ⟨rfl,b⟩;have d:=X6 b;clear b;go_wp2;go_ret;exact⟨rfl,d.out⟩
 |some i=>
  rw[hr]at a;unfold ckVal at a;simp only at a;clear hr c;go_enter func27,ntmps27;go_wp2_with fail;refine a.out.mono ?_;rintro e f ⟨rfl,b⟩;have d:=X6 b;clear b;go_wp2;go_ret;exact⟨rfl,d.out⟩
theorem infoIntS:(prog.info? 3).map (·.size)=some 1:=by kernel_rfl
theorem zli (l:List Nat):intL.all l=(icells l).toList:=by
 induction l with
 |nil=>rfl
 |cons x l ih=>
  have a:intL.all (x::l)=.int .i64 (x:Int)::intL.all l:=rfl;rw[a,ih];simp[icells]
theorem zpn (W:World) (B g n c:Nat) (A:Option Addr) (l:List Nat) (ty:TypeId) (hl:l.length=n) (hb:Blk W g 3 (icells (K9 n 0))) (hr:RowAt intL W B A l):
 ∃W',(Builtin.copy_ #[35,35] ty #[.slice (some ⟨g,0,none⟩) n n,.slice A n c]).run prog W=.ok (.int .i64 n) W'/\Kept1 g W W'/\Blk W' g 3 (icells l):=by
 by_cases h0:n=0
 .subst h0;obtain rfl:=Z2 hl;exact⟨W,run_copy_none (P:=prog) W 35 35 ty 3 _ A 0 0 0 c underlying35 infoIntS rfl,Kept1.refl _ _,hb⟩
 .obtain⟨f,rfl,hlt,d⟩:=hr.2 (by omega);have a:(intL.all l).length=n:=by rw[Lay.all_len];show l.length*1=n;omega
  have b:=run_copy_row (P:=prog) W 35 35 ty 3 g 0 n n f n c (icells (K9 n 0)) 3 (intL.all l) underlying35 infoIntS hb (by rw[a];exact(Nat.min_self n).symm) d (by rw[a];simp[icells]) (intL.all_one l);have e:((icells (K9 n 0)).toList.take 0++intL.all l++(icells (K9 n 0)).toList.drop (0+(intL.all l).length)).toArray=icells l:=by
   rw[a];have:intL.all l=(icells l).toList:=by
    exact zli l
   rw[this];simp[icells]
  rw[e,a]at b;exact⟨_,b,⟨rfl,rfl,rfl,size_setRow _ _ _,fun k h=>setRow_other _ _ _ _ h⟩,setRow_heap _ _ _ _ _ _ hb⟩
theorem zfg (l:List Nat) (f:Nat->Nat) (i:Nat) (h:i<l.length):((l.take i).map f++l.drop i).set i (f l[i])=(l.take (i+1)).map f++l.drop (i+1):=by
 have e:((l.take i).map f).length=i:=by simp;omega
 rw[Z9 h,D2 _ _ (by rw[e];exact K4 _),e,Nat.sub_self,E3,zaj _ _ h,U8];simp
theorem zfh (A:Option Addr) (c by_:Nat) (l:List Nat) (hl:l.length<=1073741823) (hx:∀x∈l,x<=1152921504606846976) (hby:by_<=1152921504606846976) (w:World) (B:Nat) (hB:B<=w.heap.size) (h:RowAt intL w B A l):
 Calls prog 34 #[.slice A l.length c,.int .i64 by_] w fun e w'=>e=.returned (.slice (some ⟨w.heap.size,0,none⟩) l.length l.length)/\Below w.heap.size w w'/\Blk w' w.heap.size 3 (icells (l.map (· +by_))):=by
 have hmk:=fun W=>za7 l.length (by omega) W
 obtain⟨t,b⟩:=ex (w.alloc (.cells (icells (K9 l.length 0)) 3))
 have s:Below w.heap.size w t:=by rw[<-b];exact(K1 _ _).alloc (K4 _) _
 have v:Blk t w.heap.size 3 (icells (K9 l.length 0)):=by rw[<-b];exact Q4 _ _ _
 obtain⟨y,r,k,m⟩:=zpn t B w.heap.size l.length c A l 3 rfl v (h.below (s.mono hB));have d:Hid (Below w.heap.size w y/\Blk y w.heap.size 3 (icells l)):=X6 ⟨s.trans (k.below (K4 _)),m⟩;clear s v k m h;go_enter func34,ntmps34;go_upto_region 2 with fail;(try rw[b]);clear b;go_upto_region 3 with fail;obtain⟨g,p⟩:=ex w.heap.size
 have z:=X6 p;rw[p]at d;(try rw[p]);clear r p;go_upto_region 4 with fail;go_loopw [15] (fun s15 wr=>∃i:Nat,i<=l.length/\s15=.int .i64 i/\Hid (Below g w wr/\Blk wr g 3 (icells ((l.take i).map (· +by_)++l.drop i)))) (fun s15 _=>l.length-(intOf s15).toNat)
 case atStart=>exact⟨0,by omega,rfl,X6 ⟨d.out.1,by simpa using d.out.2⟩⟩
 case round=>
  obtain⟨i,C,rfl,o⟩:=hrel;by_cases hlt:i<l.length
  .have f:(i:Int)<(l.length:Int):=by omega
   obtain⟨x,a⟩:=ex (l[i])
   have hxb:x<=1152921504606846976:=by rw[<-a];exact hx _ (K3 hlt)
   have n:((l.take i).map (· +by_)++l.drop i).getD i 0=x:=by
    rw[K5,List.getElem?_append_right (by simp;omega)];simp[Nat.min_eq_left C,K0 hlt,a]
   have z0:wr.cell? ⟨g,i,none⟩=some (.int .i64 (x:Int)):=by
    rw[o.out.2.cell,zaa (by simp;omega),n]
   have zf:∀j,wr.frozen? ⟨g,j,none⟩=false:=o.out.2.frozen;have q:Hid (Below g w (wr.setCell ⟨g,i,none⟩ (.int .i64 ((x:Int)+(by_:Int))))/\Blk (wr.setCell ⟨g,i,none⟩ (.int .i64 ((x:Int)+(by_:Int)))) g 3 (icells ((l.take (i+1)).map (· +by_)++l.drop (i+1)))):=X6 ⟨o.out.1.setCell (by simp) _,by
    have u:=o.out.2.set_ i (.int .i64 ((x+by_:Nat):Int));rw[zam]at u;rw[show(x:Int)+(by_:Int)=((x+by_:Nat):Int)from by omega];have e:=zfg l (· +by_) i hlt;rw[a]at e;rw[e]at u;exact u⟩
   clear n a;go_wp2;go_roundw
   case rel=>exact⟨i+1,by omega,by go_num,q⟩
   case measure=>simp[intOf];omega
  .have f:¬(i:Int)<(l.length:Int):=by omega
   have D:Hid (Below g w wr/\Blk wr g 3 (icells (l.map (· +by_)))):=X6 (by
    have:=o.out;rw[show i=l.length from by omega,F1,List.drop_length,List.append_nil]at this;exact this)
   go_wp2;go_ret;rw[z.out];exact⟨rfl,D.out⟩
def KeptT (t:TypeId) (w w':World):Prop:=∀g cs,Blk w g t cs->Blk w' g t cs
theorem KeptT.refl (t:TypeId) (w:World):KeptT t w w:=fun _ _ h=>h
theorem KeptT.trans {t:TypeId} {a b c:World} (h:KeptT t a b) (k:KeptT t b c):KeptT t a c:=fun g d x=>k g d (h g d x)
theorem KeptT.later {t:TypeId} {w w':World} (h:Below w.heap.size w w'):KeptT t w w':=fun _ _ x=>x.below h x.lt
theorem KeptT.alloc (t:TypeId) (w:World) (o:Obj):KeptT t w (w.alloc o):=fun _ _ x=>x.alloc o
theorem KeptT.drewN (t:TypeId) (w:World) (n:Nat):KeptT t w (w.drewN n):=fun _ _ x=>x
theorem KeptT.setCell {t t':TypeId} {w:World} {p:Addr} {cs:Array Value} (h:Blk w p.block t' cs) (hne:t≠t') (u:Value):KeptT t w (w.setCell p u):=
 fun _ _ x=>x.far (fun e=>by subst e;exact Blk.ne_ x h hne rfl) u
theorem KeptT.grown {t t':TypeId} {w w':World} {v:Value} {base:Nat} {size n:Nat} {xs:List Value} (hg:w.grownBy w' v.ownBlock) (h:w.ownsRow base t' size v n xs) (hne:t'≠t):KeptT t w w':=
 fun _ _ x=>x.grown hg (fun e=>zb2 h x hne e.symm)
section
variable {α:Type} {L:Lay α} {w w':World} {B base:Nat} {E:TypeId} {v:Value} {l:List α}
theorem OwnRow.kept (h:OwnRow L w base E v l) (hk:KeptT E w w'):OwnRow L w' base E v l:=by
 refine⟨h.1,?_⟩;rcases h.2 with hn|⟨g,cap,cur,rfl,hbg,hgg,rest⟩
 .exact .inl hn
 .exact .inr ⟨g,cap,cur,rfl,hbg,hk g cur hgg,rest⟩
theorem OwnRow.drew (h:OwnRow L w base E v l):OwnRow L w.drew base E v l:=h
theorem OwnRow.blk (h:OwnRow L w base E v l) (g:Nat) (hg:v.ownBlock=some g):∃cs,Blk w g E cs:=by
 rcases h.2 with⟨rfl,_⟩|⟨g',cap,a,rfl,hbg,b,rest⟩
 .cases hg
 .simp[Value.ownBlock]at hg;subst hg;exact⟨a,b⟩
theorem OwnRow.grown_other (h:OwnRow L w base E v l) {row:Option Nat} (hg:w.grownBy w' row) (hne:∀g,v.ownBlock=some g->row≠some g):OwnRow L w' base E v l:=by
 refine⟨h.1,?_⟩;rcases h.2 with hn|⟨g,cap,cur,rfl,hbg,hgg,rest⟩
 .exact .inl hn
 .refine .inr ⟨g,cap,cur,rfl,hbg,?_,rest⟩;rw[hg.block g (Blk.lt (t:=E) (cs:=cur) hgg) (fun e=>hne g (by simp[Value.ownBlock]) e.symm)];exact hgg
theorem OwnRow.row (h:OwnRow L w base E v l) (hl:l≠[]):
 ∃g cap rest,v=.slice (some ⟨g,0,none⟩) l.length cap/\l.length<=cap/\Blk w g E (L.all l++rest).toArray/\base<=g/\(∀w' l',l'.length=l.length->Blk w' g E (L.all l'++rest).toArray->OwnRow L w' base E v l'):=by
 rcases h.2 with⟨_,hn⟩|⟨g,cap,c,i,e,m,f,k,hcs,htk⟩
 .grind
 .have hcl:=L.all_len l;have a:c=(L.all l++c.toList.drop (l.length*L.sz)).toArray:=by
   grind
  have hle:l.length*L.sz<=cap*L.sz:=D8 _ f;refine⟨g,cap,c.toList.drop (l.length*L.sz),i,f,?_,e,fun w' l' d j=>?_⟩
  .unfold Blk;rw[<-a];exact m
  .have b:=L.all_len l';refine⟨b,.inr ⟨g,cap,_,by rw[d];exact i,e,j,by omega,k,?_,?_⟩⟩
   .simp only[List.size_toArray,Q8,List.length_drop,Array.length_toList];rw[d]at b;omega
   .simp only;rw[List.take_append_of_le_length (by omega),Y5 (by omega)]
end
theorem zto {α:Type} (L:Lay α) (l:List α) (k j:Nat) (x:α) (u:Value) (hk:k<l.length) (hj:j<L.sz) (he:L.enc x=(L.enc l[k]).set j u):L.all (l.set k x)=(L.all l).set (k*L.sz+j) u:=by
 induction l generalizing k with
 |nil=>simp at hk
 |cons y l ih=>
  cases k with
  |zero=>
   have a:L.all (x::l)=L.enc x++L.all l:=rfl;have b:L.all (y::l)=L.enc y++L.all l:=rfl;simp only[List.getElem_cons_zero]at he;simp only[E3,G2,G3];rw[a,b,he,D6 _ _ (by rw[L.len];exact hj)]
  |succ k=>
   have a:L.all (y::l.set k x)=L.enc y++L.all (l.set k x):=rfl;have b:L.all (y::l)=L.enc y++L.all l:=rfl;rw[List.set_cons_succ,a,b,ih k (by simpa using hk) (by simpa using he)];rw[D2 _ _ (by rw[L.len,Z4];omega),L.len];rw[show(k+1)*L.sz+j-L.sz=k*L.sz+j from by rw[Z4];omega]
theorem zev {α:Type} (L:Lay α) {w:World} {g:Nat} {E:TypeId} {l:List α} {rest:List Value} (h:Blk w g E (L.all l++rest).toArray) (k j:Nat) (x:α) (u:Value) (hk:k<l.length) (hj:j<L.sz) (he:L.enc x=(L.enc l[k]).set j u):
 Blk (w.setCell ⟨g,k*L.sz+j,none⟩ u) g E (L.all (l.set k x)++rest).toArray:=by
 have hl:=L.all_len l;have h2:k*L.sz+L.sz<=l.length*L.sz:=by
  have:(k+1)*L.sz<=l.length*L.sz:=D8 _ hk;rw[Z4]at this;omega
 have a:=h.set_ (k*L.sz+j) u;have e:(L.all l++rest).toArray.setIfInBounds (k*L.sz+j) u=(L.all (l.set k x)++rest).toArray:=by
  apply G7;rw[Array.toList_setIfInBounds,zto L l k j x u hk hj he];exact D6 _ _ (by omega)
 rw[e]at a;exact a
theorem zmz {w:World} {g:Nat} {l:List NV} {rest:List Value} (h:Blk w g 37 (nodeL.all l++rest).toArray) (k:Nat) (hk:k<l.length) (i:SV):
 Blk (w.setCell ⟨g,k*5+4,none⟩ i.v) g 37 (nodeL.all (l.set k {l[k]with i:=i})++rest).toArray:=
 zev nodeL h k 4 {l[k]with i:=i} i.v hk (by decide) rfl
def ints (vs:List NV) (j:Nat) (b:Bool):SV:=match vs[j]? with
 |some x=>if b then x.i else x.k
 |none=>V5
def intsOf (ns:List Gr.Nd) (j:Nat) (b:Bool):List Nat:=match ns[j]? with
 |some m=>if b then m.items else m.keys
 |none=>[]
structure Rows (B:Nat) (w:World) (vs:List NV) (ns:List Gr.Nd):Prop where
 len:vs.length=ns.length
 kind:∀j (h:j<vs.length) (h2:j<ns.length),vs[j].kind=ns[j].kind/\vs[j].text=ns[j].text/\vs[j].ord=ns[j].ord
 own:∀j b,OwnRow intL w B 3 (ints vs j b).v (intsOf ns j b)
 apart:∀j b j' b' g,(ints vs j b).v.ownBlock=some g->(ints vs j' b').v.ownBlock=some g->j=j'/\b=b'
theorem Rows.kept {B:Nat} {w w':World} {vs:List NV} {ns:List Gr.Nd} (h:Rows B w vs ns) (hk:KeptT 3 w w'):Rows B w' vs ns:=
 ⟨h.len,h.kind,fun j b=>(h.own j b).kept hk,h.apart⟩
theorem ziy (vs:List NV) (x:NV) (j:Nat) (b:Bool):ints (vs++[x]) j b=if j=vs.length then(if b then x.i else x.k)else ints vs j b:=by
 unfold ints;by_cases hj:j<vs.length
 .grind
 .grind
theorem zkd (ns:List Gr.Nd) (x:Gr.Nd) (j:Nat) (b:Bool):intsOf (ns++[x]) j b=if j=ns.length then(if b then x.items else x.keys)else intsOf ns j b:=by
 unfold intsOf;by_cases hj:j<ns.length
 .grind
 .grind
theorem Rows.snoc {B:Nat} {w:World} {vs:List NV} {ns:List Gr.Nd} (h:Rows B w vs ns) (x:NV) (m:Gr.Nd) (hx:x.kind=m.kind/\x.text=m.text/\x.ord=m.ord) (ok:OwnRow intL w B 3 x.k.v m.keys) (oi:OwnRow intL w B 3 x.i.v m.items)
 (hki:∀g,x.k.v.ownBlock=some g->x.i.v.ownBlock=some g->False) (hold:∀j b g,(ints vs j b).v.ownBlock=some g->x.k.v.ownBlock≠some g/\x.i.v.ownBlock≠some g):Rows B w (vs++[x]) (ns++[m]):=by
 have a:=h.len;refine⟨by simp[a],?_,?_,?_⟩
 .intro j c d;by_cases hj:j<vs.length
  .rw[W4 hj,W4 (by omega)];exact h.kind j hj (by omega)
  .grind
 .intro j b;rw[ziy,zkd,<-a];by_cases hj:j=vs.length
  .grind
  .rw[if_neg hj,if_neg hj];exact h.own j b
 .intro j b e f g c d;rw[ziy]at c d;by_cases hj:j=vs.length
  .grind
  .rw[if_neg hj]at c;by_cases hj':e=vs.length
   .grind
   .rw[if_neg hj']at d;exact h.apart j b e f g c d
theorem Rows.grow {B:Nat} {w w':World} {vs:List NV} {ns:List Gr.Nd} (h:Rows B w vs ns) (j:Nat) (b:Bool) (x:NV) (m:Gr.Nd) (hj:j<vs.length)
 (hx:x.kind=vs[j].kind/\x.text=vs[j].text/\x.ord=vs[j].ord) (hm:m.kind=(ns[j]'(by rw[<-h.len];exact hj)).kind/\m.text=(ns[j]'(by rw[<-h.len];exact hj)).text/\m.ord=(ns[j]'(by rw[<-h.len];exact hj)).ord)
 (hb:(if b then x.k else x.i)=ints vs j (!b)) (hbm:(if b then m.keys else m.items)=intsOf ns j (!b))
 (hown:OwnRow intL w' B 3 (if b then x.i else x.k).v (if b then m.items else m.keys)) (hg:w.grownBy w' (ints vs j b).v.ownBlock)
 (hat:(if b then x.i else x.k).v.ownBlock=(ints vs j b).v.ownBlock\/(if b then x.i else x.k).v.ownBlock=some w.heap.size):Rows B w' (vs.set j x) (ns.set j m):=by
 have d:=h.len;have n:j<ns.length:=by omega
 have e1:∀j' b',ints (vs.set j x) j' b'=if j'=j then(if b' then x.i else x.k)else ints vs j' b':=by
  intro j' b';unfold ints;by_cases he:j'=j
  .grind
  .grind
 have e2:∀j' b',intsOf (ns.set j m) j' b'=if j'=j then(if b' then m.items else m.keys)else intsOf ns j' b':=by
  intro j' b';unfold intsOf;by_cases he:j'=j
  .grind
  .grind
 have e:∀j' b',¬(j'=j/\b'=b)->ints (vs.set j x) j' b'=ints vs j' b'/\intsOf (ns.set j m) j' b'=intsOf ns j' b':=by
  grind
 refine⟨by simp[d],?_,?_,?_⟩
 .intro j' c a;by_cases he:j=j'
  .subst he;rw[D3,D3];have:=h.kind j hj n;exact⟨by rw[hx.1,hm.1,this.1],by rw[hx.2.1,hm.2.1,this.2.1],by rw[hx.2.2,hm.2.2,this.2.2]⟩
  .rw[E0 he,E0 he];exact h.kind j' (by simpa using c) (by simpa using a)
 .intro j' b';by_cases hc:j'=j/\b'=b
  .grind
  .rw[(e j' b' hc).1,(e j' b' hc).2];exact(h.own j' b').grown_other hg (fun g r q=>hc (h.apart j' b' j b g r q))
 .have hnew:∀j' b' g,¬(j'=j/\b'=b)->(ints vs j' b').v.ownBlock=some g->(if b then x.i else x.k).v.ownBlock=some g->False:=by
   intro j' b' g hc c a;rcases hat with h3|h3
   .rw[h3]at a;exact hc (h.apart j' b' j b g c a)
   .rw[h3]at a;injection a with a
    have:=(h.own j' b').lt g c;omega
  intro s f o p g c a;by_cases hc1:s=j/\f=b
  .grind
  .rw[(e s f hc1).1]at c;by_cases hc2:o=j/\p=b
   .grind
   .rw[(e o p hc2).1]at a;exact h.apart s f o p g c a
theorem Rows.later {B:Nat} {w w':World} {vs:List NV} {ns:List Gr.Nd} (h:Rows B w vs ns) (hb:Below w.heap.size w w'):Rows B w' vs ns:=h.kept (KeptT.later hb)
theorem Rows.nil (B:Nat) (w:World):Rows B w [] []:=
 ⟨rfl,fun j h=>by simp at h,fun j b=>by simp[ints,intsOf,V5,G0];exact D5,fun j b j' b' g h=>by simp[ints,V5,G0,Value.ownBlock]at h⟩
structure Tab (B:Nat) (w:World) (v:Value) (vs:List NV) (ns:List Gr.Nd):Prop where
 row:OwnRow nodeL w B 37 v vs
 rows:Rows B w vs ns
theorem Tab.later {B:Nat} {w w':World} {v:Value} {vs:List NV} {ns:List Gr.Nd} (h:Tab B w v vs ns) (hb:Below w.heap.size w w'):Tab B w' v vs ns:=⟨h.row.later hb,h.rows.later hb⟩
theorem SV.row {w:World} {B:Nat} {x:SV} {l:List Nat} (h:OwnRow intL w B 3 x.v l):RowAt intL w w.heap.size x.a l/\x.n=l.length:=by
 obtain⟨A,c,b,d⟩:=h.form;unfold G0 at b;injection b with e1 e2 e3
 subst e1;exact⟨d,e2⟩
theorem Tab.at_ {B:Nat} {w:World} {v:Value} {vs:List NV} {ns:List Gr.Nd} (h:Tab B w v vs ns):∃A c,v=.slice A ns.length c/\GAt w w.heap.size A vs ns:=by
 obtain⟨A,c,o,f⟩:=h.row.form;refine⟨A,c,by rw[o,h.rows.len],f,h.rows.len,h.rows.kind,fun j d e=>?_⟩;have m:(ints vs j false)=vs[j].k:=by unfold ints;rw[K0 d];rfl
 have n:(ints vs j true)=vs[j].i:=by unfold ints;rw[K0 d];rfl
 have p:(intsOf ns j false)=ns[j].keys:=by unfold intsOf;rw[K0 e];rfl
 have g:(intsOf ns j true)=ns[j].items:=by unfold intsOf;rw[K0 e];rfl
 have b:=h.rows.own j false;have a:=h.rows.own j true;rw[m,p]at b;rw[n,g]at a;exact⟨(SV.row b).1,(SV.row b).2,(SV.row a).1,(SV.row a).2⟩
namespace Gr
def shN (d:Nat) (x:Nd):Nd:=⟨x.kind,x.text,x.ord,x.keys.map (· +d),x.items.map (· +d)⟩
end Gr
open Go.RowKit
theorem zb8 {w:World} {B g n:Nat} {l:List Nat} (h:Blk w g 3 (icells l)) (hB:B<=g) (hn:l.length=n) (hm:n<=maxLen):OwnRow intL w B 3 (.slice (some ⟨g,0,none⟩) n n) l:=by
 subst hn;refine⟨intL.all_len l,.inr ⟨g,l.length,icells l,rfl,hB,h,K4 _,hm,by simp[icells,intL],?_⟩⟩;rw[<-zli,Y5 (by rw[intL.all_len];exact K4 _)]
structure ShBox (w wx:World) (nb:Nat) (n:Gr.Nd) (d g1 g2:Nat):Prop where
 box:Blk wx nb 37 #[.int .i64 n.kind,.string ⟨n.text.toArray⟩,.bool n.ord,.slice (some ⟨g1,0,none⟩) n.keys.length n.keys.length,.slice (some ⟨g2,0,none⟩) n.items.length n.items.length]
 b1:Blk wx g1 3 (icells (n.keys.map (· +d)))
 b2:Blk wx g2 3 (icells (n.items.map (· +d)))
 lo1:w.heap.size<=g1
 lo2:w.heap.size<=g2
 ne_:g1≠g2
 below:Below w.heap.size w wx
def ztp (B:Nat) (r:Int) (ms:List Gr.Nd) (w:World) (e:Ending) (w':World):Prop:=∃v' vs',e=.returned (.tuple #[v',.int .i64 r])/\Tab B w' v' vs' ms/\Below B w w'/\∀t,t≠37->KeptT t w w'
theorem zcl (B:Nat) (A:Option Addr) (c root:Nat) (us:List NV) (gs:List Gr.Nd) (v:Value) (vs:List NV) (ns:List Gr.Nd) (hgl:gs.length<=1073741823) (hnl:ns.length+gs.length<=1073741823) (hks:NH gs) (hrb:Refs gs) (hroot:root<gs.length) (w:World) (h:GAt w B A us gs) (hv:Tab B w v vs ns) (hB:B<=w.heap.size):
 Calls prog 17 #[v,.agg #[.slice A gs.length c,.int .i64 root]] w (ztp B ((root:Int)+(ns.length:Int)) (ns++gs.map (shN ns.length)) w):=by
 obtain⟨A0,c0,rfl,aM⟩:=hv.at_;obtain⟨d,hd⟩:=ex ns.length
 have HD:=hid hd;obtain⟨q,K⟩:=ex (w.alloc (.cells #[.slice A gs.length c,.int .i64 root] 24))
 have l1:Below w.heap.size w q:=by rw[<-K];exact(K1 _ _).alloc (K4 _) _
 have b1:Blk q w.heap.size 24 #[.slice A gs.length c,.int .i64 root]:=by rw[<-K];exact Q4 _ _ _
 obtain⟨gb,U⟩:=ex w.heap.size
 have aL:Hid (B<=q.heap.size):=hid (U1 hB l1.size);have aD:Hid (Below B w q):=hid (l1.mono hB);have al:=hid (hv.later l1);have Z:=hid (h.below (l1.mono hB));have hdl:d+gs.length<=1073741823:=by omega
 rw[U]at b1;rw[hd]at al;have aC:=hid b1;have aK:Hid (∀t,KeptT t w q):=hid (fun t=>KeptT.later l1);have g0:q.cell? ⟨gb,0,none⟩=some (.slice A gs.length c):=b1.cell 0;clear hv aM l1 b1 h hB;go_enter func17,ntmps17;go_upto_region 1 with fail;(try rw[K]);(try rw[U]);(try rw[hd]);clear K U hd;go_upto_region 3 with fail;clear g0;go_loopw [0,14] (fun s0 s14 wr=>∃(j:Nat) (A1:Option Addr) (c1:Nat) (vs1:List NV),j<=gs.length/\s14=.int .i64 j/\s0=.slice A1 (d+j) c1/\Hid (Tab B wr (.slice A1 (d+j) c1) vs1 (ns++(gs.take j).map (shN d))/\Below B q wr/\(∀t,t≠37->KeptT t q wr)/\q.heap.size<=wr.heap.size)) (fun _ s14 _=>gs.length-(intOf s14).toNat)
 case atStart=>exact⟨0,A0,c0,vs,by omega,rfl,rfl,hid ⟨by simpa using al.out,K1 _ _,fun t _=>KeptT.refl _ _,K4 _⟩⟩
 case round=>
  obtain⟨j,A1,c1,vs1,hj,rfl,rfl,z⟩:=hrel;obtain⟨a,az⟩:∃a,a=wr:=⟨_,rfl⟩
  subst az;by_cases hlt:j<gs.length
  .have au:(j:Int)<(gs.length:Int):=by omega
   obtain⟨ad,ks,is,rfl,C⟩:=(Z.out.below z.out.2.1).node hlt;obtain⟨ka,kn,kc⟩:=ks;obtain⟨R,aO,ic⟩:=is;have aa:gs[j]∈gs:=K3 hlt;obtain⟨ap,af,aA⟩:=hks _ aa;have L:=hrb _ aa;obtain⟨n,hn⟩:=ex (gs[j])
   have aE:Hid ((gs.take (j+1)).map (shN d)=(gs.take j).map (shN d)++[shN d n]):=hid (by rw[X2 hlt,U8,hn];rfl);rw[hn]at C ap af aA L;obtain rfl:kn=n.keys.length:=C.kn;obtain rfl:aO=n.items.length:=C.inn;have x0:=C.c0;have x1:=C.c1;have x2:=C.c2;have x3:=C.c3;have x4:=C.c4;have ai:Hid (RowAt intL a B ka n.keys/\RowAt intL a B R n.items):=hid ⟨C.keys,C.items⟩;have b:Hid (B<=a.heap.size):=hid (U1 aL.out z.out.2.2.2);have ab:Hid ((∀x∈n.keys,x<=1152921504606846976)/\(∀x∈n.items,x<=1152921504606846976)):=hid ⟨fun x hx=>by have:=L x (Q2 _ hx);omega,fun x hx=>by have:=L x (Q3 _ hx);omega⟩;clear C aa hn L;go_upto_region 5 with fail;obtain⟨f,r⟩:=ex (a.alloc (.cells #[.int .i64 n.kind,.string ⟨n.text.toArray⟩,.bool n.ord,.slice ka n.keys.length kc,.slice R n.items.length ic] 37))
   obtain⟨l,p⟩:=ex a.heap.size
   have G:Blk f l 37 #[.int .i64 n.kind,.string ⟨n.text.toArray⟩,.bool n.ord,.slice ka n.keys.length kc,.slice R n.items.length ic]:=by rw[<-r,<-p];exact Q4 _ _ _
   have l5:Below l a f:=by rw[<-r,<-p];exact(K1 _ _).alloc (K4 _) _
   have am:f.heap.size=l+1:=by rw[<-r,<-p];simp
   rw[r];(try rw[p]);have X:=hid l5;have ac:=hid G;have k:Hid (f.heap.size=l+1/\a.heap.size=l):=hid ⟨am,p⟩;have y3:f.cell? ⟨l,3,none⟩=some (.slice ka n.keys.length kc):=G.cell 3;have y4:f.cell? ⟨l,4,none⟩=some (.slice R n.items.length ic):=G.cell 4;have yf:∀i,f.frozen? ⟨l,i,none⟩=false:=G.frozen;have HY:Hid (∀W,Below f.heap.size f W->W.cell? ⟨l,3,none⟩=some (.slice ka n.keys.length kc)/\W.cell? ⟨l,4,none⟩=some (.slice R n.items.length ic)/\∀i,W.frozen? ⟨l,i,none⟩=false):=hid (fun W D=>⟨(G.below D G.lt).cell 3,(G.below D G.lt).cell 4,(G.below D G.lt).frozen⟩);clear r p G l5 am x0 x1 x2 x3 x4;have aH:Hid (∀W,Below f.heap.size f W->Calls prog 34 #[.slice ka n.keys.length kc,.int .i64 d] W fun e H=>Below f.heap.size f H/\Below W.heap.size W H/\∃g,g=W.heap.size/\e=.returned (.slice (some ⟨g,0,none⟩) n.keys.length n.keys.length)/\Blk H g 3 (icells (n.keys.map (· +d)))):=hid (fun W D=>by
    have hb:Below B a W:=(X.out.mono (by have:=k.out;have:=b.out;omega)).trans (D.mono (by have:=k.out;have:=b.out;omega));refine(zfh ka kc d n.keys ap ab.out.1 (by omega) W B (by have:=hb.size;have:=b.out;omega) (ai.out.1.below hb)).mono ?_;rintro e H ⟨rfl,h1,h2⟩;exact⟨D.trans (h1.mono D.size),h1,_,rfl,rfl,h2⟩)
   have aF:Hid (∀W,Below f.heap.size f W->Calls prog 34 #[.slice R n.items.length ic,.int .i64 d] W fun e H=>Below f.heap.size f H/\Below W.heap.size W H/\∃g,g=W.heap.size/\e=.returned (.slice (some ⟨g,0,none⟩) n.items.length n.items.length)/\Blk H g 3 (icells (n.items.map (· +d)))):=hid (fun W D=>by
    have hb:Below B a W:=(X.out.mono (by have:=k.out;have:=b.out;omega)).trans (D.mono (by have:=k.out;have:=b.out;omega));refine(zfh R ic d n.items af ab.out.2 (by omega) W B (by have:=hb.size;have:=b.out;omega) (ai.out.2.below hb)).mono ?_;rintro e H ⟨rfl,h1,h2⟩;exact⟨D.trans (h1.mono D.size),h1,_,rfl,rfl,h2⟩)
   go_cut [8] (fun s8 wx=>s8=.pointer (some ⟨l,0,none⟩)/\∃g1 g2 wy,wy=wx/\Hid (ShBox a wy l n d g1 g2))
   case first=>
    go_region_with ((first
     | (go_at_call 34;(with_reducible refine(aH.out _ ?_).mono ?_);(first|assumption|exact K1 _ _|exact(K1 _ _).drew|exact G5 (by assumption));rintro e1 aB ⟨aN,hc1,g1,ae,rfl,F⟩;obtain⟨q13,q14,q1f⟩:=HY.out aB aN;have Z:=hid ae;clear ae)
     | (go_at_call 34;(with_reducible refine(aF.out _ ?_).mono ?_);(first|assumption|exact K1 _ _|exact(K1 _ _).drew|exact G5 (by assumption));rintro e2 aQ ⟨T,aP,g2,ar,rfl,aw⟩;obtain⟨q23,q24,q2f⟩:=HY.out aQ T;have aJ:=hid ar;clear ar)))
    all_goals
     go_wp2;go_meet;have e1:g1=l+1:=by have:=Z.out;have h2:=k.out;rw[show f.drew.heap.size=f.heap.size from rfl]at this;omega
     have e2:g1<g2:=by have:=aJ.out;have:=F.lt;omega
     refine⟨rfl,g1,g2,_,rfl,hid ⟨((ac.out.below T ac.out.lt).set_ 3 _).set_ 4 _,((F.below aP F.lt).far (by simp;omega) _).far (by simp;omega) _,(aw.far (by simp;omega) _).far (by simp;omega) _,by have:=k.out;omega,by have:=k.out;omega,by omega,?_⟩⟩;have hw:a.heap.size=l:=k.out.2;rw[hw];exact((X.out.trans (T.mono (by have:=k.out;omega))).setCell (by simp) _).setCell (by simp) _
   case rest=>
    obtain⟨rfl,g1,g2,M,rfl,J⟩:=hcut;obtain⟨z0,z1,z2,z3,z4⟩:=cells5 J.out.box;have S:Below a.heap.size a M:=J.out.below;have V:=hid (z.out.1.later S);have ao:a.heap.size<M.heap.size:=by have:=J.out.b2.lt;have:=J.out.lo2;omega
    obtain⟨x,an⟩:∃x:NV,x=⟨n.kind,n.text,n.ord,⟨some ⟨g1,0,none⟩,n.keys.length,n.keys.length⟩,⟨some ⟨g2,0,none⟩,n.items.length,n.items.length⟩⟩:=⟨_,rfl⟩
    have E:=V.out.row;have ag:vs1.length=d+j:=by
     have:=V.out.rows.len;rw[this,Q8,Q5,F2,HD.out];omega
    have m:Hid (OwnRow nodeL M B 37 (.slice A1 (d+j) c1) vs1):=hid E;have ax:=hid ag;have s:Hid (B<=M.heap.size):=hid (by have:=b.out;omega);have o:=hid an;have av:=hid S;have aI:=hid ao;clear E ag an S ao y3 y4 yf;go_wp2_with (at_builtin;go_must (refine zab _ rfl (.tmp 28) (.tmp 30) 22 37 80 rfl nodeT B (.slice A1 (d+j) c1) vs1 rfl (m.out.alloc _) _ _ 1 [x] rfl (RowAt.lit1 _ _ (by rw[o.out];rfl) _ ?_) ?_ ?_ ?_))
    any_goals (first|rfl| (have:=ax.out;have:=s.out;simp;omega))
    intro v' N u hg aG;obtain⟨A2,c2,aq,_⟩:=u.form;have ah:(vs1++[x]).length=d+(j+1):=by rw[Q8,ax.out];rfl
    rw[ah]at aq;subst aq;have I:KeptT 3 M N:=(KeptT.alloc _ _ _).trans (KeptT.grown hg (m.out.alloc _) (by decide));have aj:∀t,t≠37->KeptT t M N:=fun t O=>(KeptT.alloc _ _ _).trans (KeptT.grown hg (m.out.alloc _) (Ne.symm O))
    have Q:Below B M N:=((K1 B M).alloc s.out _).trans ((m.out.alloc _).grown_below hg (by rw[E6];have:=s.out;omega));have ak:a.heap.size<=g1/\a.heap.size<=g2:=⟨J.out.lo1,J.out.lo2⟩
    have P:Tab B N (.slice A2 (d+(j+1)) c2) (vs1++[x]) (ns++(gs.take (j+1)).map (shN d)):=by
     rw[aE.out,<-List.append_assoc];refine⟨u,(V.out.rows.kept I).snoc x (shN d n) (by rw[o.out];exact⟨rfl,rfl,rfl⟩) ?_ ?_ ?_ ?_⟩
     .rw[o.out];exact zb8 (I _ _ J.out.b1) (by have:=b.out;omega) (by simp[shN]) (by simp only[maxLen];omega)
     .rw[o.out];exact zb8 (I _ _ J.out.b2) (by have:=b.out;omega) (by simp[shN]) (by simp only[maxLen];omega)
     .intro g e1 e2;rw[o.out]at e1 e2;simp[G0,Value.ownBlock]at e1 e2;have:=J.out.ne_;omega
     .intro j' b' g e1;have:=((z.out.1.rows.own j' b').lt g e1).2;rw[o.out];constructor<;>(intro e2;simp[G0,Value.ownBlock]at e2;omega)
    have ay:Hid (Tab B N (.slice A2 (d+(j+1)) c2) (vs1++[x]) (ns++(gs.take (j+1)).map (shN d))/\Below B q N/\(∀t,t≠37->KeptT t q N)/\q.heap.size<=N.heap.size):=hid ⟨P,(z.out.2.1.trans (av.out.mono b.out)).trans Q,fun t O=>((z.out.2.2.1 t O).trans (KeptT.later av.out)).trans (aj t O),by have:=z.out.2.2.2;have:=aI.out;have:=Q.size;omega⟩;clear u hg aG ah I aj Q P ak z0 z1 z2 z3 z4;go_wp2;go_roundw
    case rel=>exact⟨j+1,A2,c2,vs1++[x],by omega,by go_num,rfl,ay⟩
    case measure=>simp[intOf];omega
  .have au:¬(j:Int)<(gs.length:Int):=by omega
   have Y:j=gs.length:=by omega
   have y:Hid (Tab B a (.slice A1 (d+j) c1) vs1 (ns++gs.map (shN d))/\Below B w a/\∀t,t≠37->KeptT t w a):=hid ⟨by
    have:=z.out.1;rwa[Y,F1,<-Y]at this,aD.out.trans z.out.2.1,fun t O=>(aK.out t).trans (z.out.2.2.1 t O)⟩
   clear Y;have g1:a.cell? ⟨gb,1,none⟩=some (.int .i64 root):=(z.out.2.2.1 _ (by decide) _ _ aC.out).cell 1;have hdd:d<=1073741823:=by omega
   have hrr:root<=1073741823:=by omega
   go_upto_region 8 with fail;go_quiet (fail);go_wp2;go_ret2;rw[HD.out];exact⟨_,vs1,rfl,y.out.1.later (below_drewN (K1 _ _) _),below_drewN y.out.2.1 _,fun t O=>(y.out.2.2 t O).trans (KeptT.drewN _ _ _)⟩
namespace Gr
def Nd.ni (x:Nd):Ni:=⟨x.kind,x.text,x.ord,x.keys.map Int.ofNat,x.items.map Int.ofNat⟩
theorem z0a (x:Nd):x.ni.nd=x:=by
 cases x;simp[Nd.ni,Ni.nd,Function.comp_def]
theorem zju (ns:List Nd):(ns.map Nd.ni).map Ni.nd=ns:=by
 rw[List.map_map]
 conv=>rhs;rw[<-List.map_id ns]
 exact V1 (fun x _=>z0a x)
theorem zsd (ns:List Nd) (root:Nat) (hr:Refs ns) (hroot:root<ns.length):indB (ns.map Nd.ni) (root:Int)=true:=by
 unfold indB inR;simp only[Q5,K6,qqv];refine⟨⟨by omega,by omega⟩,?_⟩;rw[G1,K8];intro x b;show rng ns.length x.ni=true;unfold rng;rw[show x.ni.keys++x.ni.items=(x.keys++x.items).map Int.ofNat from by simp[Nd.ni],G1,K8];intro y a;have:=hr x b y a;simp[inR];omega
end Gr
open Go.RowKit
theorem zx7 (l:List Nat):intI.all (l.map Int.ofNat)=intL.all l:=by
 induction l with
 |nil=>rfl
 |cons x l ih=>
  have a:intI.all (Int.ofNat x::l.map Int.ofNat)=intI.enc (Int.ofNat x)++intI.all (l.map Int.ofNat):=rfl;have b:intL.all (x::l)=intL.enc x++intL.all l:=rfl;rw[W3,a,b,ih];rfl
theorem zfz {w:World} {B:Nat} {A:Option Addr} {l:List Nat} (h:RowAt intL w B A l):RowAt intI w B A (l.map Int.ofNat):=by
 unfold RowAt at h ⊢;rw[zx7,Q5];exact h
theorem GAt.toI {w:World} {B:Nat} {A:Option Addr} {vs:List NV} {ns:List Gr.Nd} (h:GAt w B A vs ns):IAt w B A vs (ns.map Gr.Nd.ni):=by
 refine⟨h.row,by simp[h.len],fun j f e=>?_,fun j f e=>?_⟩
 .rw[Q5]at e;rw[Z1];exact h.kind j f e
 .rw[Q5]at e;rw[Z1];obtain⟨a,b,c,d⟩:=h.nums j f e;exact⟨zfz a,by rw[b];simp[Gr.Nd.ni],zfz c,by rw[d];simp[Gr.Nd.ni]⟩
def checkG (sclr:Int->K2->Bool) (ns:List Gr.Nd) (root:Nat):Nat:=if ns.length>4096 then 7 else checkN sclr ns root
theorem zse (T:World->Prop) (hT:Stays T) (sclr:Int->K2->Bool) (A:Option Addr) (c root:Nat) (vs:List NV) (ns:List Gr.Nd) (hks:NH ns) (hsc:ScalsOk T sclr ns) (hl:ns.length<=1073741823) (hr:Refs ns) (hroot:root<ns.length) (w:World) (hTw:T w) (h:GAt w w.heap.size A vs ns):
 Calls prog 14 #[.agg #[.slice A ns.length c,.int .i64 root]] w fun e w'=>e=.returned (.int .i64 (checkG sclr ns root:Nat))/\Below w.heap.size w w':=by
 have:=zfd T hT sclr A c (root:Int) vs (ns.map Gr.Nd.ni) (by rw[zju];exact hks) (by rw[zju];exact hsc) (by simpa using hl) w hTw h.toI;rw[Q5]at this;have e:checkI sclr (ns.map Gr.Nd.ni) (root:Int)=checkG sclr ns root:=by
  unfold checkI checkG;rw[Q5,zju,zsd ns root hr hroot];by_cases h1:ns.length>4096
  .rw[if_pos h1,if_pos h1]
  .rw[if_neg h1,if_neg h1,if_neg (by simp;intro e;rw[e]at hroot;simp at hroot),F4]
 rw[e]at this;exact this
def ChkOk (w:World) (g:Value) (chk:Nat):Prop:=∀W,Below w.heap.size w W->Calls prog 14 #[g] W fun e w'=>e=.returned (.int .i64 (chk:Nat))/\Below W.heap.size W w'
theorem ChkOk.later {w w':World} {g:Value} {chk:Nat} (h:ChkOk w g chk) (hb:Below w.heap.size w w'):ChkOk w' g chk:=fun W a=>h W (hb.trans (a.mono hb.size))
def gZero:Value:=.agg #[.slice none 0 0,.int .i64 0]
theorem zf0 (A:Option Addr) (n c:Nat) (root:Int) (chk:Nat) (w:World) (h:ChkOk w (.agg #[.slice A n c,.int .i64 root]) chk):
 Calls prog 18 #[.agg #[.slice A n c,.int .i64 root]] w fun e w'=>e=.returned (.tuple #[if chk=0 then .agg #[.slice A n c,.int .i64 root]else gZero,.int .i64 (chk:Nat)])/\Below w.heap.size w w':=by
 have z:=hid h;clear h;go_enter func18,ntmps18;go_upto_region 1 with fail;obtain⟨l,b⟩:=ex ((w.alloc (.cells #[.slice A n c,.int .i64 root] 24)).alloc (.cells #[.slice none 0 0,.int .i64 0] 24))
 obtain⟨m,a⟩:=ex w.heap.size
 have r:Blk l m 24 #[.slice A n c,.int .i64 root]:=by rw[<-b,<-a];exact(Q4 _ _ _).alloc _
 have y:Blk l (m+1) 24 #[.slice none 0 0,.int .i64 0]:=by rw[<-b,<-a];have:=Q4 (w.alloc (.cells #[.slice A n c,.int .i64 root] 24)) 24 #[.slice none 0 0,.int .i64 0];rwa[E6]at this
 have t:Below m w l:=by rw[<-b,<-a];exact((K1 _ _).alloc (K4 _) _).alloc (by simp) _
 have u:=hid t;have o:=hid a;have s:Hid (ChkOk l (.agg #[.slice A n c,.int .i64 root]) chk):=hid (z.out.later (by rw[a];exact t));have g:=hid r;have j:=hid y;obtain⟨B,C⟩:=cells2 r;(try rw[b]);(try rw[a]);clear b a r y t;go_wp2_with fail;refine(s.out l (K1 _ _)).mono ?_;rintro e x ⟨rfl,f⟩;have p:=g.out.below f g.out.lt;have d:=j.out.below f j.out.lt;have q:Hid (Below m w x):=hid (u.out.trans (f.mono (by have:=g.out.lt;omega)));obtain⟨k0,k1⟩:=cells2 p;obtain⟨d0,d1⟩:=cells2 d;have df:∀i,x.frozen? ⟨m+1,i,none⟩=false:=d.frozen;have k:=hid d;clear f p d B C;by_cases h0:chk=0
 .subst h0;go_wp2_with fail;have e0:=((k.out.set_ 0 (.slice A n c)).set_ 1 (.int .i64 root)).cell 0;have e1:=((k.out.set_ 0 (.slice A n c)).set_ 1 (.int .i64 root)).cell 1;refine J1 (v:=.tuple #[.agg #[.slice A n c,.int .i64 root],.int .i64 0]) (by rw[J2 rfl];go_simp) rfl ⟨rfl,?_⟩;rw[o.out];exact(q.out.setCell (by simp) _).setCell (by simp) _
 .have h0I:((chk:Int)==0)=false:=by rw[qqq];omega
  go_wp2_with fail;refine J1 (v:=.tuple #[gZero,.int .i64 chk]) (by rw[J2 rfl];go_simp;rfl) rfl ⟨by first|rfl|rw[if_neg h0],?_⟩;rw[o.out];exact(q.out.setCell (by simp) _).setCell (by simp) _
theorem zu0 (A:Option Addr) (n c:Nat) (root:Int) (chk:Nat) (w:World) (h:ChkOk w (.agg #[.slice A n c,.int .i64 root]) chk):
 Calls prog 13 #[.agg #[.slice A n c,.int .i64 root]] w fun e w'=>e=.returned (.int .i64 (if chk=0 then(n:Int)else 0))/\Below w.heap.size w w':=by
 obtain⟨j,a⟩:=ex (w.alloc (.cells #[.slice A n c,.int .i64 root] 24))
 have m:Below w.heap.size w j:=by rw[<-a];exact(K1 _ _).alloc (K4 _) _
 have l:Hid (ChkOk j (.agg #[.slice A n c,.int .i64 root]) chk):=hid (h.later m);have i:=hid m;clear h m;go_enter func13,ntmps13;go_upto_region 1 with fail;have k:Blk j w.heap.size 24 #[.slice A n c,.int .i64 root]:=by rw[<-a];exact Q4 _ _ _
 obtain⟨p,q⟩:=cells2 k;have d:=hid k;(try rw[a]);clear a k;go_wp2_with fail;refine(l.out j (K1 _ _)).mono ?_;rintro e o ⟨rfl,b⟩;have g:Hid (Below w.heap.size w o):=hid (i.out.trans (b.mono i.out.size));have f:=d.out.below b d.out.lt;have k0:o.cell? ⟨w.heap.size,0,none⟩=some (.slice A n c):=f.cell 0;clear b f p q;by_cases h0:chk=0
 .subst h0;go_wp2;go_ret;exact⟨rfl,g.out⟩
 .have h0I:((chk:Int)==0)=false:=by rw[qqq];omega
  go_wp2;go_ret;exact⟨by first|rfl| (rw[if_neg h0];rfl),g.out⟩
def DepOk (w:World) (g:Value) (p:Int×Bool):Prop:=∀W,Below w.heap.size w W->Calls prog 28 #[g] W fun e w'=>e=.returned (.tuple #[.int .i64 p.1,.bool p.2])/\Below W.heap.size W w'
theorem zsf (A:Option Addr) (n c:Nat) (root:Int) (chk:Nat) (p:Int×Bool) (w:World) (h:ChkOk w (.agg #[.slice A n c,.int .i64 root]) chk) (hd:chk=0->DepOk w (.agg #[.slice A n c,.int .i64 root]) p):
 Calls prog 12 #[.agg #[.slice A n c,.int .i64 root]] w fun e w'=>e=.returned (.tuple #[.int .i64 (if chk=0 then p.1 else 0),.bool (if chk=0 then p.2 else false)])/\Below w.heap.size w w':=by
 obtain⟨l,b⟩:=ex (w.alloc (.cells #[.slice A n c,.int .i64 root] 24))
 have q:Below w.heap.size w l:=by rw[<-b];exact(K1 _ _).alloc (K4 _) _
 have o:Hid (ChkOk l (.agg #[.slice A n c,.int .i64 root]) chk):=hid (h.later q);have g:=hid q;have x:=hid hd;clear h q hd;go_enter func12,ntmps12;go_upto_region 1 with fail;have m:Blk l w.heap.size 24 #[.slice A n c,.int .i64 root]:=by rw[<-b];exact Q4 _ _ _
 obtain⟨v,y⟩:=cells2 m;have f:=hid m;(try rw[b]);clear b m;go_wp2_with fail;refine(o.out l (K1 _ _)).mono ?_;rintro e t ⟨rfl,d⟩;have k:Below w.heap.size w t:=g.out.trans (d.mono g.out.size);have a:=hid k;have i:=f.out.below d f.out.lt;obtain⟨k0,k1⟩:=cells2 i;clear d i v y k;by_cases h0:chk=0
 .have s:=hid (x.out h0 t a.out);subst h0;go_wp2_with fail;refine s.out.mono ?_;rintro e u ⟨rfl,j⟩;have r:Hid (Below w.heap.size w u):=hid (a.out.trans (j.mono a.out.size));clear j;go_wp2;go_ret2;exact⟨rfl,r.out⟩
 .have h0I:((chk:Int)==0)=false:=by rw[qqq];omega
  go_wp2;go_ret2;exact⟨by first|rfl| (rw[if_neg h0,if_neg h0];rfl),a.out⟩
def zx8 (w:World) (kind:Int) (text:K2) (r:Bool) (e:Ending) (w':World):Prop:=
 Below w.heap.size w w'/\(r=false->e=.returned (.tuple #[gZero,.int .i64 3]))/\(r=true->∃g,w.heap.size<=g/\e=.returned (.tuple #[.agg #[.slice (some ⟨g,0,none⟩) 1 1,.int .i64 0],.int .i64 0])/\Blk w' g 37 #[.int .i64 kind,.string ⟨text.toArray⟩,.bool false,.slice none 0 0,.slice none 0 0])
theorem zec (T:World->Prop) (hT:Stays T) (kind:Int) (text:K2) (r:Bool) (hk:0<=kind) (hk8:kind<=8) (hs:ScalOk T kind text r) (w:World) (hTw:T w):
 Calls prog 10 #[.int .i64 kind,.string ⟨text.toArray⟩] w (zx8 w kind text r):=by
 have c1:¬kind<0:=by omega
 have c2:¬(8:Int)<kind:=by omega
 obtain⟨x,c⟩:=ex (w.alloc (.cells #[.slice none 0 0,.int .i64 0] 24))
 obtain⟨f,b⟩:=ex w.heap.size
 have u:Below f w x:=by rw[<-c,<-b];exact(K1 _ _).alloc (K4 _) _
 have A:Blk x f 24 #[.slice none 0 0,.int .i64 0]:=by rw[<-c,<-b];exact Q4 _ _ _
 have C:=hid (hs x (hT _ _ hTw (by rw[b];exact u)));have y:=hid u;have g:=hid A;have k:=hid b;clear hs hTw u A;go_enter func10,ntmps10;go_upto_region 1 with fail;(try rw[c]);(try rw[b]);clear c b;go_wp2_with fail;refine C.out.mono ?_;rintro e d ⟨rfl,j⟩;have a:=g.out.below j g.out.lt;have p:Hid (Below f w d):=hid (y.out.trans (j.mono (by have:=g.out.lt;omega)));have t:=hid a;have df:∀i,d.frozen? ⟨f,i,none⟩=false:=a.frozen;have df2:∀o i,(d.alloc o).frozen? ⟨f,i,none⟩=false:=fun o=>(a.alloc o).frozen
 obtain⟨d0,d1⟩:=cells2 a;have d2:∀o,(d.alloc o).cell? ⟨f,0,none⟩=some (.slice none 0 0):=fun o=>(a.alloc o).cell 0
 have d3:∀o,(d.alloc o).cell? ⟨f,1,none⟩=some (.int .i64 0):=fun o=>(a.alloc o).cell 1
 have z:Hid (f<d.heap.size):=hid a.lt;clear j a;cases r with
 |false=>
  go_wp2_with fail;refine J1 (v:=.tuple #[gZero,.int .i64 3]) (by rw[J2 rfl];go_simp;rfl) rfl ⟨?_,fun _=>rfl,fun h=>nomatch h⟩;rw[k.out];exact(p.out.setCell (by simp) _).setCell (by simp) _
 |true=>
  go_wp2_with fail;obtain⟨o,B⟩:=ex (Obj.cells #[Value.int IntKind.i64 kind,Value.string {data:=W8 text},Value.bool false,Value.slice none 0 0,Value.slice none 0 0] 37)
  rw[B];obtain⟨q,m⟩:=ex d.heap.size
  rw[m];have l:=((t.out.alloc o).set_ 0 (.slice (some ⟨q,0,none⟩) 1 1)).set_ 1 (.int .i64 0);have e0:=l.cell 0;have e1:=l.cell 1;have n:=p.out;have HSZ2:=z.out;have s:Blk (d.alloc o) q 37 #[.int .i64 kind,.string ⟨text.toArray⟩,.bool false,.slice none 0 0,.slice none 0 0]:=by rw[<-m,<-B];exact Q4 _ _ _
  refine J1 (v:=.tuple #[.agg #[.slice (some ⟨q,0,none⟩) 1 1,.int .i64 0],.int .i64 0]) ?_ rfl (And.intro ?_ (And.intro (fun h=>nomatch h) (fun _=>⟨q,?_,rfl,?_⟩)))
  .rw[J2 rfl];go_simp
  .rw[k.out];exact((n.alloc (by omega) o).setCell (by simp) _).setCell (by simp) _
  .rw[k.out];omega
  .exact(s.far (by simp;omega) _).far (by simp;omega) _
theorem Tab.push {B:Nat} {w1 w2:World} {g n cap k:Nat} {x:NV} {vl:List NV} {m:Gr.Nd} {nl:List Gr.Nd} {v:Value} (h:Tab B w1 (.slice (some ⟨g,0,none⟩) n cap) (x::vl) (m::nl))
 (hown:OwnRow intL w2 B 3 v (m.items++[k])) (hg:w1.grownBy w2 x.i.v.ownBlock) (hat:v.ownBlock=x.i.v.ownBlock\/v.ownBlock=some w1.heap.size):
 ∃i:SV,v=i.v/\Tab B (w2.setCell ⟨g,4,none⟩ v) (.slice (some ⟨g,0,none⟩) n cap) ({x with i:=i}::vl) ({m with items:=m.items++[k]}::nl)/\(∀t,t≠37->t≠3->KeptT t w1 (w2.setCell ⟨g,4,none⟩ v))/\(B<=w1.heap.size->Below B w1 (w2.setCell ⟨g,4,none⟩ v)):=by
 obtain⟨A,c,F,_⟩:=hown.form;have u:ints (x::vl) 0 true=x.i:=rfl;have C:intsOf (m::nl) 0 true=m.items:=rfl;have j:=h.rows.own 0 true;rw[u,C]at j;have l:KeptT 37 w1 w2:=KeptT.grown hg j (by decide);obtain⟨w,f,rest,hv',hcap,D,q,b⟩:=h.row.row (by simp);obtain⟨rfl,rfl,rfl⟩:g=w/\n=(x::vl).length/\cap=f:=by
  grind
 have d:=l _ _ D;have r:=zmz d 0 (by simp) ⟨A,(m.items++[k]).length,c⟩;have a:v=(⟨A,(m.items++[k]).length,c⟩:SV).v:=F;rw[<-a,G2,G3]at r;have o:KeptT 3 w2 (w2.setCell ⟨g,4,none⟩ v):=KeptT.setCell (p:=⟨g,4,none⟩) d (by decide) v;refine⟨⟨A,(m.items++[k]).length,c⟩,a,⟨b _ _ (by simp) r,?_⟩,?_,?_⟩
 .have s:=h.rows.grow (w':=w2) 0 true {x with i:=⟨A,(m.items++[k]).length,c⟩} {m with items:=m.items++[k]} (by simp) ⟨rfl,rfl,rfl⟩ ⟨rfl,rfl,rfl⟩ rfl rfl (by rw[if_pos rfl,if_pos rfl,<-a];exact hown) hg (by rw[if_pos rfl,<-a];exact hat);exact s.kept o
 .intro t z y;exact(KeptT.grown hg j (fun e=>y e.symm)).trans (KeptT.setCell (p:=⟨g,4,none⟩) d z v)
 .intro E;exact(j.grown_below hg E).setCell q v
theorem Tab.one {B:Nat} {w:World} {g:Nat} {kind:Int} {text:K2} {ord:Bool} (h:Blk w g 37 #[.int .i64 kind,.string ⟨text.toArray⟩,.bool ord,.slice none 0 0,.slice none 0 0]) (hB:B<=g):
 Tab B w (.slice (some ⟨g,0,none⟩) 1 1) [⟨kind,text,ord,V5,V5⟩] [⟨kind,text,ord,[],[]⟩]:=by
 have a:=(Rows.nil B w).snoc ⟨kind,text,ord,V5,V5⟩ ⟨kind,text,ord,[],[]⟩ ⟨rfl,rfl,rfl⟩ D5 D5 (fun g h=>by simp[V5,G0,Value.ownBlock]at h) (fun j b g h=>by simp[ints,V5,G0,Value.ownBlock]at h);refine⟨⟨nodeL.all_len _,.inr ⟨g,1,_,rfl,hB,h,K4 _,by decide,rfl,rfl⟩⟩,a⟩
structure GArg where
 a:Option Addr
 c:Nat
 root:Int
 vs:List NV
 is:List Gr.Ni
def GArg.v (x:GArg):Value:=.agg #[.slice x.a x.is.length x.c,.int .i64 x.root]
def argL:Lay GArg:={enc:=fun x=>[.slice x.a x.is.length x.c,.int .i64 x.root],sz:=2,len:=fun _=>rfl,one:=fun x u hu=>by simp at hu;rcases hu with rfl|rfl<;>rfl,pos:=by omega}
theorem zv6 {w:World} {B:Nat} {A:Option Addr} {l:List GArg} {k:Nat} (h:RowAt argL w B A l) (hk:k<l.length):∃ad,A=some ad/\ad.block<B/\w.cell? (ad.add (k*2))=some (.slice l[k].a l[k].is.length l[k].c)/\
 w.cell? {block:=(ad.add (k*2)).block,off:=(ad.add (k*2)).off+1}=some (.int .i64 l[k].root):=by
 obtain⟨ad,b,f,d,e⟩:=h.get hk;exact⟨ad,b,f,d _ rfl,e 1 _ (by omega) rfl⟩
structure GsAt (w:World) (B:Nat) (A:Option Addr) (l:List GArg):Prop where
 row:RowAt argL w B A l
 each:∀x∈l,IAt w B x.a x.vs x.is
theorem GsAt.below {w w':World} {B:Nat} {A:Option Addr} {l:List GArg} (h:GsAt w B A l) (hb:Below B w w'):GsAt w' B A l:=⟨h.row.below hb,fun x a=>(h.each x a).below hb⟩
namespace Gr
def push0 (k:Nat):List Nd->List Nd
 | []=>[]
 |m::l=>{m with items:=m.items++[k]}::l
def lstep (ns:List Nd) (g:List Ni×Int):List Nd:=push0 (g.2.toNat+ns.length) (ns++(g.1.map Ni.nd).map (shN ns.length))
def listN (gs:List (List Ni×Int)):List Nd:=gs.foldl lstep [⟨9,[],false,[],[]⟩]
end Gr
def GArg.p (x:GArg):List Gr.Ni×Int:=(x.is,x.root)
def GArg.chk (sclr:Int->K2->Bool) (x:GArg):Nat:=checkI sclr x.is x.root
theorem zzo {sclr:Int->K2->Bool} {x:GArg} (h:x.chk sclr=0):x.is.length<=4096/\0<x.is.length/\indB x.is x.root=true:=by
 unfold GArg.chk checkI at h;by_cases h1:x.is.length>4096
 .rw[if_pos h1]at h;cases h
 .grind
theorem zzp {is:List Gr.Ni} {root:Int} (h:indB is root=true):∃r:Nat,root=(r:Int)/\r<is.length/\(∀x∈is,∀y∈x.keys++x.items,0<=y)/\Refs (is.map Gr.Ni.nd):=by
 unfold indB at h;rw[K6]at h;have a:=h.1;simp only[inR,K6,qqv]at a;refine⟨root.toNat,by omega,by omega,?_,?_⟩
 .exact(za1 h.2).1
 .exact(za1 h.2).2
namespace Gr
open Classical in
noncomputable def wt (sc:Nat->List Nat) (n v:Nat):Nat:=(K7 n).countP (fun i=>decide (Reach sc v i/\Reach sc i v))
structure LongR (sc:Nat->List Nat) (n:Nat) (F:Nat->Nat):Prop where
 up:∀v u,v<n->u<n->Reach sc v u->Reach sc u v->∀x∈sc u,¬Reach sc x v->wt sc n v+F x<=F v
 att:∀v,v<n->F v=wt sc n v\/∃u,u<n/\Reach sc v u/\Reach sc u v/\∃x∈sc u,¬Reach sc x v/\F v=wt sc n v+F x
theorem zpu (sc:Nat->List Nat) (n v:Nat) (h:v<n):0<wt sc n v:=by
 unfold wt;exact E2.2 ⟨v,Q0.2 h,by simpa using Reach.refl v⟩
section
variable {ns:List Nd} {root:Nat}
theorem zpv (h:Refs ns) (hr:root<ns.length) (hall:∀v,v<ns.length->Reach (succ ns) root v):
 ∃F:Nat->Nat,LongR (succ ns) ns.length F/\(depth ns root).1=(F root:Int)-1/\((depth ns root).2=true↔∀u,u<ns.length->∀x∈succ ns u,¬Reach (succ ns) x u):=by
 obtain⟨d,p,F,h0,h1,l,s,j,r,h6⟩:=zmj h hr hall;have n:∀v,v<ns.length->p v=wt (succ ns) ns.length v:=by
  intro v c;rw[s v c];unfold wt;apply List.countP_congr;intro i q;have:=l i v (Q0.1 q) c;simp only[qkq,qqv];rw[this];exact And.comm
 have m:∀v u x,v<ns.length->u<ns.length->Reach (succ ns) v u->Reach (succ ns) u v->x∈succ ns u->(d x≠d u↔¬Reach (succ ns) x v):=by
  intro v u x c f a b g;have:=l x u (h.succ u x g) f;rw[ne_eq,this];constructor
  .exact fun k e=>k ⟨e.trans a,.one g⟩
  .exact fun k e=>k (e.1.trans b)
 refine⟨F,⟨fun v u c f a b x g o=>?_,fun v c=>?_⟩,r,?_⟩
 .have e:d u=d v:=(l u v f c).2 ⟨b,a⟩;have:=j.up u f x g ((m v u x c f a b g).2 o);rw[j.same u v e,j.szs u v e,n v c]at this;exact this
 .rcases j.att v c with a|⟨u,f,e,x,g,o,he⟩
  .exact .inl (a.trans (n v c))
  .grind
 .grind
theorem zdb {u:Nat} (hu:u<ns.length):succ ns u=ns[u].keys++ns[u].items:=by unfold succ;rw[K0 hu]
theorem zm4 (h:Refs ns) (hr:root<ns.length) (hall:∀v,v<ns.length->Reach (succ ns) root v) (hone:∀x,x<ns.length->mkd (inKeys ns) x=true->(counts ns root).getD x 0=1):
 (∀u,u<ns.length->∀x∈succ ns u,¬Reach (succ ns) x u)↔∀(u:Nat) (hu:u<ns.length),∀x∈ns[u].items,¬Reach (succ ns) x u:=by
 constructor
 .intro k u hu x a;exact k u hu x (by rw[zdb hu];exact Q3 _ a)
 .intro k u hu x a;have d:=a;rw[zdb hu]at d;rcases Y9.1 d with hk|hi
  .intro e;have b:=h.succ u x a;have c:mkd (inKeys ns) x=true:=(zax h x).2 ⟨x,Y0.2 ⟨_,K3 hu,hk⟩,.refl _⟩;cases e with
   |refl=>exact zg7 h hr hall hone b c a (.refl _)
   |step h1 h2=>exact zg7 h hr hall hone b c h1 (h2.trans (.one a))
  .exact k u hu x hi
end
end Gr
namespace Gr
def dupS:List Str->Bool
 | []=>false
 |x::l=>l.any (fun y=>y==x) || dupS l
def rtwice (ns:List Nd) (f:Nat):Bool:=ns.any (fun x=>dupS (x.keys.map (printF ns f)))
theorem zd2 (l:List Str):dupS l=false↔l.Nodup:=by
 induction l with
 |nil=>simp[dupS]
 |cons x l ih=>
  unfold dupS;rw[D7,ih,F6];constructor
  .grind
  .grind
theorem zfj {α:Type} [DecidableEq α]:∀(l m:List α),l.Nodup->(∀x∈l,x∈m)->m.length<=l.length->l.Perm m:=by
 intro l
 induction l with
 |nil=>intro m _ _ c;cases m with
  |nil=>exact .refl _
  |cons=>simp at c
 |cons a l ih=>
  intro m d h c;rw[F6]at d;have j:=h a (.head _);have g:=List.perm_cons_erase j;have b:=g.length_eq;rw[U5]at b;refine((ih (m.erase a) d.2 (fun x i=>?_) (by rw[U5]at c;omega)).cons a).trans g.symm;have f:=h x (.tail _ i);exact(List.mem_erase_of_ne (fun e=>d.1 (by rw[<-e];exact i))).2 f
section
variable {ns:List Nd}
theorem zm3 (hok:NodesOk ns) (hr:Refs ns):∀(f g i:Nat),TOk ns f i->TOk ns g i->printF ns f i=printF ns g i:=by
 intro f
 induction f with
 |zero=>intro g i a;exact absurd a.tall id
 |succ f ih=>
  intro g i a d;cases g with
  |zero=>exact absurd d.tall id
  |succ g=>
   rw[zan (K0 a.lt),zan (K0 a.lt)];have h:ents ns f (ns[i]'a.lt)=ents ns g (ns[i]'a.lt):=by
    have s1:succ ns i=(ns[i]'a.lt).keys++(ns[i]'a.lt).items:=by unfold succ;rw[K0 a.lt]
    have k1:=hok _ (K3 a.lt);have e:∀x∈succ ns i,printF ns f x=printF ns g x:=fun x c=>ih g x ⟨hr.succ i x c,a.tall x c⟩ ⟨hr.succ i x c,d.tall x c⟩
    rw[s1]at e;generalize ns[i]'a.lt=x at *;unfold ents;apply V1;intro k j;have b:=Q0.1 j;have l:=e (x.items.getD k 0) (Q3 _ (by rw[K5,K0 b];exact K3 b));by_cases h10:x.kind=10
    .grind
    .rw[if_neg h10,if_neg h10,l]
   unfold entS;rw[h]
theorem za8 {l:List Nat} {k:Nat} (h:k<l.length):l.getD k 0=l[k]:=by rw[K5,K0 h];rfl
theorem zhf (hok:NodesOk ns) (hr:Refs ns) (F:Nat) (hF:∀k∈allKeys ns,TOk ns F k) (hd:∀x∈ns,(x.keys.map (printF ns F)).Nodup):∀(f i j:Nat),TOk ns f i->TOk ns f j->sameF ns f i j=true->printF ns f i=printF ns f j:=by
 intro f
 induction f with
 |zero=>intro i j m;exact absurd m.tall id
 |succ f ih=>
  intro i j m o h;have g:∀x∈succ ns i,TOk ns f x:=fun x C=>⟨hr.succ i x C,m.tall x C⟩
  have n:∀x∈succ ns j,TOk ns f x:=fun x C=>⟨hr.succ j x C,o.tall x C⟩
  have s1:succ ns i=(ns[i]'m.lt).keys++(ns[i]'m.lt).items:=by unfold succ;rw[K0 m.lt]
  have s2:succ ns j=(ns[j]'o.lt).keys++(ns[j]'o.lt).items:=by unfold succ;rw[K0 o.lt]
  have S:=hok _ (K3 m.lt);have T:=hok _ (K3 o.lt);have R:=hd _ (K3 m.lt);have L:∀k∈(ns[i]'m.lt).keys,printF ns F k=printF ns f k:=fun k s=>by
   refine zm3 hok hr F f k (hF k (Y0.2 ⟨_,K3 m.lt,s⟩)) (g k ?_);rw[s1];exact Q2 _ s
  rw[s1]at g;rw[s2]at n;unfold sameF at h;rw[K0 m.lt,K0 o.lt]at h;rw[zan (K0 m.lt),zan (K0 o.lt)];generalize ns[i]'m.lt=x at *;generalize ns[j]'o.lt=y at *;simp only at h;split at h
  .cases h
  .rename_i hne;have a:x.kind=y.kind:=Decidable.by_contra fun e=>hne (.inl e)
   have b:x.text=y.text:=Decidable.by_contra fun e=>hne (.inr (.inl e))
   have c:x.ord=y.ord:=Decidable.by_contra fun e=>hne (.inr (.inr (.inl e)))
   have d:x.items.length=y.items.length:=Decidable.by_contra fun e=>hne (.inr (.inr (.inr e)))
   have E:entS ns f x=entS ns f y:=by
    unfold entS;split at h
    .rename_i hm;rw[if_pos hm,if_pos ⟨a▸hm.1,c▸hm.2⟩];apply ztq;have lx:=S.2.2 hm.1;have ly:=T.2.2 (a▸hm.1);refine zfj _ _ ?_ ?_ (by simp[ents,d])
     .unfold ents;simp only[if_pos hm.1];unfold G9;rw[E7];have t:=R;unfold G9 at t;rw[E7,Z8]at t;rw[Z8];intro p q P O H E;have hpl:p<x.items.length:=by simpa using P
      have hql:q<x.items.length:=by simpa using O
      rw[E4,E4]at E;have U:TOk ns f (x.keys.getD p 0):=g _ (Q2 _ (by rw[za8 (by omega)];exact K3 _));have N:TOk ns f (x.keys.getD q 0):=g _ (Q2 _ (by rw[za8 (by omega)];exact K3 _));have K:TOk ns f (x.items.getD p 0):=g _ (Q3 _ (by rw[za8 (by omega)];exact K3 _));have J:TOk ns f (x.items.getD q 0):=g _ (Q3 _ (by rw[za8 (by omega)];exact K3 _));obtain⟨G,_⟩:=zda hok hr f _ f _ _ _ U N (by simpa using(za4 hok K []).1) (by simpa using(za4 hok J []).1) E;rw[za8 (by omega),za8 (by omega)]at G;have w:=t p q (by omega) (by omega) H;apply w;rw[L _ (K3 _),L _ (K3 _)];exact G
     .intro e z;unfold ents at z ⊢;obtain⟨k,s,rfl⟩:=Y7.1 z;have r:=Q0.1 s;rw[K8]at h;have B:=h (x.keys[k],x.items[k]) (Y6.2 ⟨k,by rw[X9];omega,by rw[U6]⟩);rw[X4]at B;obtain⟨⟨u,v⟩,I,D⟩:=B;obtain⟨l,Q,A⟩:=Y6.1 I;rw[X9]at Q;rw[U6]at A;injection A with hu hv
      rw[K6]at D;simp only at D;have G:=ih _ _ (g _ (Q2 _ (K3 _))) (n u (Q2 _ (by rw[<-hu];exact K3 _))) D.1;have M:=ih _ _ (g _ (Q3 _ (K3 _))) (n v (Q3 _ (by rw[<-hv];exact K3 _))) D.2;refine Y7.2 ⟨l,Q0.2 (by omega),?_⟩;rw[if_pos hm.1,if_pos (a▸hm.1),za8 (by omega),za8 (by omega),za8 (by omega),za8 (by omega),hu,hv,G,M]
    .rename_i hm;rw[if_neg hm,if_neg (by rw[<-a,<-c];exact hm)];unfold ents;rw[<-d];apply V1;intro k s;have r:=Q0.1 s;rw[K8]at h;have B:=h k s;rw[K6,U9]at B;have M:=ih _ _ (g _ (Q3 _ (by rw[za8 r];exact K3 _))) (n _ (Q3 _ (by rw[za8 (d▸r)];exact K3 _))) B.2;by_cases h10:x.kind=10
     .grind
     .grind
   rw[a,b,c,d,E]
theorem zhg (hok:NodesOk ns) (hr:Refs ns) (F:Nat):∀L:List Nat,(∀k∈L,TOk ns F k)->dupS (L.map (printF ns F))=true->twice1 ns F L=true:=by
 intro L
 induction L with
 |nil=>intro _ h;cases h
 |cons x l ih=>
  intro a h;rw[W3]at h;unfold dupS at h;unfold twice1;rw[U9]at h ⊢;rcases h with h|h
  .left;rw[X4]at h ⊢;obtain⟨s,d,c⟩:=h;obtain⟨y,b,rfl⟩:=Y7.1 d;exact⟨y,b,zhe hok hr F y x (a y (.tail _ b)) (a x (.head _)) (by simpa using c)⟩
  .grind
theorem zpt (F:Nat):∀L:List Nat,(∀a∈L,∀b∈L,sameF ns F a b=true->printF ns F a=printF ns F b)->dupS (L.map (printF ns F))=false->twice1 ns F L=false:=by
 intro L
 induction L with
 |nil=>intro _ _;rfl
 |cons x l ih=>
  intro d h;rw[W3]at h;unfold dupS at h;unfold twice1;rw[D7]at h ⊢;refine⟨?_,ih (fun a i b j=>d a (.tail _ i) b (.tail _ j)) h.2⟩;rw[Y2];intro y e f;have g:=d y (.tail _ e) x (.head _) f;have c:=h.1;rw[Y2]at c;exact c _ (Y7.2 ⟨y,e,rfl⟩) (by simp[g])
theorem zlk (hok:NodesOk ns) (hr:Refs ns) (F:Nat) (hF:∀k∈allKeys ns,TOk ns F k):twice ns F=rtwice ns F:=by
 have d:∀x∈ns,∀k∈x.keys,TOk ns F k:=fun x c k d=>hF k (Y0.2 ⟨x,c,d⟩)
 cases h:rtwice ns F with
 |true=>
  unfold rtwice at h;obtain⟨x,c,g⟩:=X4.1 h;unfold twice;exact X4.2 ⟨x,c,zhg hok hr F _ (d x c) g⟩
 |false=>
  unfold rtwice at h;have e:∀x∈ns,dupS (x.keys.map (printF ns F))=false:=fun x c=>by simpa using Y2.1 h x c
  unfold twice;rw[Y2];intro x c;rw[Y3];exact zpt F _ (fun a i b l j=>zhf hok hr F hF (fun z f=>(zd2 _).1 (e z f)) F a b (d x c a i) (d x c b l) j) (e x c)
end
end Gr
namespace Gr
def rform (sclr:Int->Str->Bool) (n:Nat) (x:Ni):Bool:=
 if(x.items.all (inR n) && x.keys.all (inR n))=false then false
 else if x.kind≠10/\(x.ord=true\/0<x.keys.length)then false
 else if x.kind=9 then x.text.isEmpty
 else if x.kind=10 then x.text.isEmpty && decide (x.keys.length=x.items.length)
 else if x.kind=11 then decide (x.items.length=1) && nameB x.text
 else decide (x.items.length=0) && sclr x.kind x.text
def rnode (ns:List Nd) (root i:Nat):Bool:=mkd (marks ns root) i && !(mkd (inKeys ns) i && (counts ns root).getD i 0 != 1)
def rwell (sclr:Int->Str->Bool) (is:List Ni) (root:Int):Bool:=
 if is.length=0\/inR is.length root=false then false
 else if is.all (rform sclr is.length)=false then false
 else(K7 is.length).all (rnode (is.map Ni.nd) root.toNat)
def rcheck (sclr:Int->Str->Bool) (is:List Ni) (root:Int):Nat:=
 if is.length>4096 then 7 else if rwell sclr is root=false then 3 else if rtwice (is.map Ni.nd) is.length=true then 8 else if(depth (is.map Ni.nd) root.toNat).1>32 then 5 else 0
theorem zke {α:Type} (l:List α):l.isEmpty=decide (l.length=0):=by cases l<;>rfl
theorem zhh (sclr:Int->Str->Bool) (n:Nat) (x:Ni) (h:rng n x=true):rform sclr n x=formB sclr x.nd:=by
 have d:(x.items.all (inR n) && x.keys.all (inR n))=true:=by
  unfold rng at h;rw[Z5,K6]at h;rw[h.1,h.2];rfl
 obtain⟨a,text,c,b,items⟩:=x;unfold rform formB Ni.nd;simp only at d ⊢;rw[d,if_neg (by decide)];simp only[zke,Q5];by_cases h9:a=9
 .grind
 .rw[if_neg h9,if_neg h9];by_cases h10:a=10
  .grind
  .rw[if_neg h10,if_neg h10];have e:(a≠10/\(c=true\/0<b.length))↔((!c && decide (b.length=0))=false):=by
    grind
   by_cases h11:a=11
   .grind
   .grind
theorem zfk {sclr:Int->Str->Bool} {n:Nat} {x:Ni} (h:rform sclr n x=true):rng n x=true:=by
 unfold rform at h;split at h
 .cases h
 .rename_i hc;rw[F0,K6]at hc;unfold rng;rw[Z5,hc.1,hc.2];rfl
theorem zm5 {α β:Type} (f:α->β) (p:β->Bool) (l:List α):(l.map f).all p=l.all (fun x=>p (f x)):=by
 grind
theorem zi7 {sclr:Int->Str->Bool} (hs:∀k t,sclr k t=true->0<=k/\k<=8) {x:Nd} (h:formB sclr x=true):0<=x.kind/\x.kind<=11/\(x.kind=10->x.keys.length=x.items.length):=by
 unfold formB at h;split at h
 .omega
 .grind
theorem zpw (ns:List Nd):∀f i,Tall ns f i->Tall' ns f i:=by
 intro f
 induction f with
 |zero=>intro i h;exact h
 |succ f ih=>intro i h x a;exact ih x (h x a)
theorem zgb (ns:List Nd) (p:Nat->Bool) (q:Nd->Bool):(K7 ns.length).all (fun i=>p i && q (ns.getD i ⟨0,[],false,[],[]⟩))=(ns.all q && (K7 ns.length).all p):=by
 rw[Y1,K6,K8,K8,K8];constructor
 .intro h;refine⟨fun x b=>?_,fun i a=>?_⟩
  .obtain⟨i,a,rfl⟩:=Y6.1 b;have:=h i (Q0.2 a);rw[K6,K5,K0 a]at this;exact this.2
  .grind
 .grind
theorem zfl (sclr:Int->Str->Bool) (hs:∀k t,sclr k t=true->0<=k/\k<=8) (is:List Ni) (root:Int):rcheck sclr is root=checkI sclr is root:=by
 unfold rcheck checkI;by_cases h1:is.length>4096
 .rw[if_pos h1,if_pos h1]
 .rw[if_neg h1,if_neg h1];by_cases h2:is.length=0\/inR is.length root=false
  .rw[if_pos (show rwell sclr is root=false by unfold rwell;rw[if_pos h2]),if_pos];rcases h2 with h2|h2
   .exact .inl h2
   .right;unfold indB;rw[h2];rfl
  .have c:inR is.length root=true:=by
    grind
   by_cases h3:is.all (rng is.length)=true
   .have g:indB is root=true:=by unfold indB;rw[c,h3];rfl
    rw[if_neg (show¬(is.length=0\/indB is root=false) by rintro(h|h);exact h2 (.inl h);rw[g]at h;cases h)];obtain⟨_,d⟩:=za1 h3;have l:(is.map Ni.nd).length=is.length:=by simp
    have p:root.toNat<(is.map Ni.nd).length:=by
     rw[l];unfold inR at c;rw[K6,qqv,qqv]at c;omega
    have e:is.all (rform sclr is.length)=(is.map Ni.nd).all (formB sclr):=by
     rw[zm5,Y1,K8,K8];constructor
     .intro h x f;rw[<-zhh sclr is.length x (K8.1 h3 x f)];exact h x f
     .intro h x f;rw[zhh sclr is.length x (K8.1 h3 x f)];exact h x f
    have r:rwell sclr is root=((is.map Ni.nd).all (formB sclr) && (K7 is.length).all (rnode (is.map Ni.nd) root.toNat)):=by
     unfold rwell;rw[if_neg h2,e];by_cases hf:(is.map Ni.nd).all (formB sclr)=false
     .rw[if_pos hf,hf];rfl
     .grind
    rw[r];clear r e h2;generalize hns:is.map Ni.nd=ns at *;rw[<-l];unfold checkN;rw[zgb];have j:(K7 ns.length).all (rnode ns root.toNat)=((K7 ns.length).all (fun i=>(marks ns root.toNat).getD i false) && !(K7 ns.length).any (fun i=>(inKeys ns).getD i false && (counts ns root.toNat).getD i 0 != 1)):=by
     rw[Y1,K6,K8,K8,V8,Y2];constructor
     .intro h;refine⟨fun i g=>?_,fun i g=>?_⟩
      .have:=h i g;unfold rnode at this;rw[K6]at this;exact this.1
      .have:=h i g;unfold rnode at this;rw[K6,V8]at this;rw[Y3];exact this.2
     .rintro⟨a,b⟩ i g;unfold rnode;rw[K6,V8,<-Y3];exact⟨a i g,b i g⟩
    rw[j];by_cases hf:ns.all (formB sclr)=true
    .rw[hf,V3,V3];by_cases hm:(K7 ns.length).all (fun i=>(marks ns root.toNat).getD i false)=true
     .rw[hm,V3];by_cases hk:(K7 ns.length).any (fun i=>(inKeys ns).getD i false && (counts ns root.toNat).getD i 0 != 1)=true
      .rw[hk];simp
      .rw[Y3]at hk;rw[hk];simp only[Bool.not_false,Bool.true_eq_false,if_false,Bool.false_eq_true,not_true];have m:∀v,v<ns.length->Reach (succ ns) root.toNat v:=fun v u=>(za3 d p v).1 (K8.1 hm v (Q0.2 u))
       have n:∀x,x<ns.length->mkd (inKeys ns) x=true->(counts ns root.toNat).getD x 0=1:=by
        intro x f o;have:=Y2.1 hk x (Q0.2 f);unfold mkd at o;rw[o,V3]at this;simpa using this
       have q:NodesOk ns:=fun x f=>zi7 hs (K8.1 hf x f)
       have s:∀k∈allKeys ns,TOk ns ns.length k:=fun k hk=>by
        obtain⟨a,b⟩:=zfc d p m n k hk;exact⟨a,zpw ns _ _ b⟩
       rw[zlk q d ns.length s]
     .grind
    .grind
   .have g:indB is root=false:=by
     rw[Y3]at h3;unfold indB;rw[h3,Bool.and_false]
    rw[if_pos (show is.length=0\/indB is root=false from .inr g),if_pos];unfold rwell;rw[if_neg h2,if_pos];rw[<-Y3];intro h;apply h3;rw[K8]at h ⊢;exact fun x f=>zfk (h x f)
end Gr
namespace Gr
structure Bfs (sc:Nat->List Nat) (n a:Nat) (m:List Bool) (L:List Nat) (i:Nat) (P:List Nat):Prop where
 ml:m.length=n
 lt:∀x∈L,x<n
 nd:L.Nodup
 mem:∀x,mkd m x=true↔x∈L
 frm:a∈L
 re:∀x∈L,Reach sc a x
 done:∀j,j<i->∀x,L[j]? =some x->∀y∈sc x,mkd m y=true
 part:∀y∈P,mkd m y=true
section
variable {sc:Nat->List Nat} {n a i:Nat} {m:List Bool} {L P:List Nat}
theorem Bfs.start (h:a<n):Bfs sc n a ((K9 n false).set a true) [a] 0 [] where
 ml:=by simp
 lt x hx:=by rw[X0.1 hx];exact h
 nd:=by simp
 mem x:=by
  rw[zla (by simpa using h),zgf];by_cases e:x=a
  .simp[e]
  .simp[e]
 frm:=by simp
 re x hx:=by rw[X0.1 hx];exact .refl a
 done j hj:=by omega
 part y hy:=by cases hy
theorem Bfs.old (h:Bfs sc n a m L i P) {y:Nat} (hy:mkd m y=true):Bfs sc n a m L i (P++[y]):=
 ⟨h.ml,h.lt,h.nd,h.mem,h.frm,h.re,h.done,fun z hz=>by
  rcases Y9.1 hz with hz|hz
  .exact h.part z hz
  .rw[X0.1 hz];exact hy⟩
theorem Bfs.new (h:Bfs sc n a m L i P) {u y:Nat} (hi:L[i]? =some u) (hys:y∈sc u) (hyn:y<n) (hy:mkd m y=false):Bfs sc n a (m.set y true) (L++[y]) i (P++[y]):=by
 have c:=fun x=>zla (m:=m) (a:=y) (by rw[h.ml];exact hyn) x
 have b:∀x,mkd m x=true->mkd (m.set y true) x=true:=fun x hx=>by rw[c];split<;>simp_all
 have hil:i<L.length:=by
  grind
 refine⟨by simp[h.ml],?_,?_,?_,Q2 _ h.frm,?_,?_,?_⟩
 .intro x hx;rcases Y9.1 hx with hx|hx
  .exact h.lt x hx
  .grind
 .rw[List.nodup_append];refine⟨h.nd,by simp,?_⟩;intro x hx z hz e;rw[X0.1 hz]at e;subst e;rw[(h.mem x).2 hx]at hy;cases hy
 .intro x;rw[c,Y9];by_cases e:x=y
  .simp[e]
  .rw[if_neg e,h.mem];simp[e]
 .intro x hx;rcases Y9.1 hx with hx|hx
  .exact h.re x hx
  .rw[X0.1 hx];exact(h.re u (List.mem_of_getElem? hi)).trans (.one hys)
 .intro j d x hx z hz;rw[List.getElem?_append_left (by omega)]at hx;exact b z (h.done j d x hx z hz)
 .intro z hz;rcases Y9.1 hz with hz|hz
  .exact b z (h.part z hz)
  .grind
theorem Bfs.next (h:Bfs sc n a m L i P) {u:Nat} (hi:L[i]? =some u) (hP:P=sc u):Bfs sc n a m L (i+1) []:=
 ⟨h.ml,h.lt,h.nd,h.mem,h.frm,h.re,fun j hj x b y c=>by
  rcases V9 j i with h1|h1
  .exact h.done j h1 x b y c
  .obtain rfl:j=i:=by omega
   rw[hi]at b;injection b with b
   subst b;exact h.part y (hP▸c),fun y c=>by cases c⟩
theorem Bfs.len_le (h:Bfs sc n a m L i P):L.length<=n:=by
 rw[<-zdy n L h.nd h.lt];have:=D4 (p:=fun i=>decide (i∈L)) (l:=K7 n);simpa using this
theorem Bfs.last (h:Bfs sc n a m L i P) (hi:L.length<=i) (x:Nat):mkd m x=true↔Reach sc a x:=by
 constructor
 .intro d;exact h.re x ((h.mem x).1 d)
 .intro c;refine c.closed (p:=fun x=>mkd m x=true) ?_ ((h.mem a).2 h.frm);intro u b v f;obtain⟨j,e,rfl⟩:=E1 ((h.mem u).1 b);exact h.done j (by omega) _ (K0 e) v f
end
section
variable {ns:List Nd} {root a:Nat}
theorem zpx {l m:List Bool} (hl:l.length=m.length) (h:∀x,mkd l x=true↔mkd m x=true):l=m:=by
 apply List.ext_getElem hl;intro i b c;have:=h i;unfold mkd at this;simp only[K5,K0 b,K0 c,V6]at this;cases e1:l[i]<;>cases e2:m[i]<;>simp_all
theorem zau (h:Refs ns) (hr:root<ns.length):(marks ns root).length=ns.length:=
 (zbu h.succ ns.length (K9 ns.length false) root (by simp) hr (zc5 _)).len
theorem zcy (h:Refs ns):(inKeys ns).length=ns.length:=by
 have b:∀k∈allKeys ns,k<ns.length:=by
  intro k b;obtain⟨y,d,c⟩:=Y0.1 b;exact h y d k (Q2 _ c)
 exact(ze3 (zbu h.succ ns.length) (allKeys ns) (K9 ns.length false) b (by simp) (zc5 _)).len
theorem Bfs.marks {i:Nat} {m:List Bool} {L P:List Nat} (h:Refs ns) (ha:a<ns.length) (hb:Bfs (succ ns) ns.length a m L i P) (hi:L.length<=i):m=W5 ns a:=
 zpx (by rw[hb.ml,zau h ha]) (fun x=>by rw[hb.last hi,za3 h ha])
def orM (o m:List Bool):List Bool:=List.zipWith (·|| ·) o m
theorem zpy {o m:List Bool} (h:o.length=m.length):(orM o m).length=o.length:=by simp[orM,h]
theorem zvo {o m:List Bool} (h:o.length=m.length) (x:Nat):mkd (orM o m) x=(mkd o x || mkd m x):=by
 unfold mkd orM;simp only[K5,List.getElem?_zipWith];rcases V9 x o.length with h1|h1
 .grind
 .grind
theorem zi8 (h:Refs ns):∀(K:List Nat) (o:List Bool),(∀k∈K,k<ns.length)->o.length=ns.length->
 (K.foldl (fun o k=>orM o (W5 ns k)) o).length=ns.length/\∀x,mkd (K.foldl (fun o k=>orM o (W5 ns k)) o) x=true↔mkd o x=true\/∃k∈K,Reach (succ ns) k x:=by
 intro K
 induction K with
 |nil=>intro o _ b;exact⟨b,fun x=>by simp⟩
 |cons k K ih=>
  intro o c b;have d:=c k (.head _);have e:=zau h d;obtain⟨f,j⟩:=ih (orM o (W5 ns k)) (fun z g=>c z (.tail _ g)) (by rw[zpy (by omega),b]);refine⟨f,fun x=>?_⟩;rw[F8,j,zvo (by omega),U9,za3 h d];constructor
  .grind
  .grind
theorem zkf (h:Refs ns):(allKeys ns).foldl (fun o k=>orM o (W5 ns k)) (K9 ns.length false)=Gr.inKeys ns:=by
 have b:∀k∈allKeys ns,k<ns.length:=by
  intro k b;obtain⟨y,f,c⟩:=Y0.1 b;exact h y f k (Q2 _ c)
 obtain⟨d,e⟩:=zi8 h (allKeys ns) (K9 ns.length false) b (by simp);refine zpx (by rw[d,zcy h]) (fun x=>?_);rw[e,zax h,zgf];simp
end
end Gr
theorem zl5 {sat:Nat} {neg:Bool} {d:List Nat} {e:Int} {s:K2} {x:Gr.Dn} (h:expS sat neg d e s=some x):x.d.length<=d.length:=by
 unfold expS at h;split at h
 .injection h with h;subst h;exact(zkn _ _ _).1
 .split at h
  .split at h
   .cases h
   .injection h with h;subst h;exact(zkn _ _ _).1
  .cases h
theorem zl6 {sat:Nat} {neg:Bool} {s:K2} {x:Gr.Dn} (h:numT sat neg s=some x):x.d.length<=s.length:=by
 have a:=Z0 (p:=V2) (l:=s);have h1:(s.takeWhile V2).length+(s.dropWhile V2).length=s.length:=by
  rw[<-Q8,a]
 have h2:((s.dropWhile V2).tail.takeWhile V2).length<=(s.dropWhile V2).length:=U1 (W9 V2).length_le (by rw[F3];omega);unfold numT at h;split at h
 .cases h
 .split at h
  .split at h
   .cases h
   .have:=zl5 h;rw[zbg,Q8]at this;omega
  .have:=zl5 h;rw[zbg]at this;omega
theorem zuo {sat:Nat} {s:K2} {x:Gr.Dn} (h:numS sat s=some x):x.d.length<=s.length:=by
 unfold numS at h;split at h
 .have:=zl6 h;rw[F3]at this;omega
 .exact zl6 h
def zca (b:Bool) (w:World) (e:Ending) (w':World):Prop:=∃(n:Bool) (A:Option Addr) (l c:Nat) (x:Int),e=.returned (.tuple #[.agg #[.bool n,.slice A l c,.int .i64 x],.bool b])/\Below w.heap.size w w'
theorem zrr (a b:K2):(a != b)=!decide (a=b):=by
 rw[bne]
 congr 1
 rw[Y1];simp
theorem zrs (s:K2) (hl:s.length<=268435455) (w:World):
 Calls prog 92 #[.string ⟨s.toArray⟩] w (zca (readR s).isSome w):=by
 have Y:=hid (fun W=>zjp s hl W);cases ho:numS 1000000 s with
 |none=>
  have N:Hid ((readR s).isSome=false):=hid (by unfold readR;rw[ho];rfl);rw[ho]at Y;clear ho;go_enter func92,ntmps92;go_upto_region 1 with fail;obtain⟨S,l⟩:=ex (w.alloc (.cells #[.bool false,.slice none 0 0,.int .i64 0] 133))
  obtain⟨a,i⟩:=ex w.heap.size
  have g:Hid (Blk S a 133 #[.bool false,.slice none 0 0,.int .i64 0]/\Below a w S):=hid (by rw[<-l,<-i];exact⟨Q4 _ _ _,(K1 _ _).alloc (K4 _) _⟩);have t:=hid i;(try rw[l]);(try rw[i]);clear l i;go_wp2_with fail;refine(Y.out _).mono ?_;rintro e B ⟨x,v,rfl,⟨A,c,rfl,u⟩,Z,I⟩;have o:Hid (Blk B a 133 #[.bool false,.slice none 0 0,.int .i64 0]/\Below a w B):=hid ⟨g.out.1.below I g.out.1.lt,g.out.2.trans (I.mono (Q6 g.out.1.lt))⟩;clear u Z I;simp only[Option.isSome_none];have p0:∀j,B.frozen? ⟨a,j,none⟩=false:=o.out.1.frozen;obtain⟨V,P,U⟩:=cells3 o.out.1;have hlt:a<B.heap.size:=o.out.1.lt;go_wp2_with fail;have b:=(((o.out.1.set_ 0 (.bool false)).set_ 1 (.slice none 0 0)).set_ 2 (.int .i64 0)).alloc (.cells #[.bool x.neg,.slice A x.d.length c,.int .i64 x.e] 133);have e0:=b.cell 0;have e1:=b.cell 1;have e2:=b.cell 2;refine J1 (v:=.tuple #[.agg #[.bool false,.slice none 0 0,.int .i64 0],.bool false]) (by rw[J2 rfl];go_simp) rfl ?_;unfold zca;rw[t.out,N.out];exact⟨_,_,_,_,_,rfl,(((o.out.2.setCell (p:=⟨a,0,none⟩) (by simp) _).setCell (p:=⟨a,1,none⟩) (by simp) _).setCell (p:=⟨a,2,none⟩) (by simp) _).alloc (by have:=o.out.1.lt;simp;omega) _⟩
 |some y=>
  have K:=zpg ho;have M:=zuo ho;have HY:Hid (Gr.Wf y/\y.d.length<=s.length):=hid ⟨K,M⟩;have G:Hid (readR s=if lim y=0/\W2 y=s then some y else none):=hid (by unfold readR;rw[ho]);rw[ho]at Y;clear ho K M;obtain⟨r,hr⟩:=ex ((readR s).isSome)
  have N:=hid hr;rw[hr];clear hr;have C:=hid (fun(A:Option Addr) (c:Nat) (W:World)=>znr y A c (by have:=HY.out.2;omega) W);have Q:=hid (fun(A:Option Addr) (c:Nat) (W:World) (h0:lim y=0) (hrow:RowAt intL W W.heap.size A y.d)=>zrl y A c (by have:=HY.out.2;omega) HY.out.1.lt (by have:=zet h0;omega) (by have:=zet h0;omega) W hrow);obtain⟨L,hL⟩:∃L:Int,((lim y:Nat):Int)=L:=⟨_,rfl⟩
  have HL:=hid hL;rw[hL]at C;clear hL;go_enter func92,ntmps92;go_upto_region 1 with fail;obtain⟨S,l⟩:=ex (w.alloc (.cells #[.bool false,.slice none 0 0,.int .i64 0] 133))
  obtain⟨a,i⟩:=ex w.heap.size
  have g:Hid (Blk S a 133 #[.bool false,.slice none 0 0,.int .i64 0]/\Below a w S):=hid (by rw[<-l,<-i];exact⟨Q4 _ _ _,(K1 _ _).alloc (K4 _) _⟩);have t:=hid i;(try rw[l]);(try rw[i]);clear l i;go_wp2_with fail;refine(Y.out _).mono ?_;rintro e B ⟨x,v,rfl,⟨A,c,rfl,u⟩,Z,I⟩;obtain rfl:=Z y rfl;obtain⟨A',c',aa,q⟩:=u.form;injection aa with ea en ec
  subst ea ec;simp only[Option.isSome_some];obtain⟨D,F⟩:∃D,D=B.alloc (.cells #[.bool x.neg,.slice A x.d.length c,.int .i64 x.e] 133):=⟨_,rfl⟩
  obtain⟨O,E⟩:=ex B.heap.size
  have k:Hid (Blk D a 133 #[.bool false,.slice none 0 0,.int .i64 0]/\Below a w D/\Blk D O 133 #[.bool x.neg,.slice A x.d.length c,.int .i64 x.e]/\a<O/\RowAt intL D D.heap.size A x.d):=hid (by
   have h1:=g.out.1.below I g.out.1.lt;have h2:Below a w B:=g.out.2.trans (I.mono (Q6 g.out.1.lt));rw[F,<-E];refine⟨h1.alloc _,h2.alloc (Q6 h1.lt) _,Q4 _ _ _,h1.lt,?_⟩;exact(q.below ((K1 _ _).alloc (K4 _) _)).more (by simp))
  clear u Z I q;go_upto_region 2 with fail;(try rw[<-F]);(try rw[E]);clear F E;obtain⟨V,P,U⟩:=cells3 k.out.2.2.1;go_wp2_with fail;refine(C.out _ _ _).mono ?_;rintro e J ⟨rfl,n⟩;have f:Hid (Blk J a 133 #[.bool false,.slice none 0 0,.int .i64 0]/\Below a w J/\Blk J O 133 #[.bool x.neg,.slice A x.d.length c,.int .i64 x.e]/\a<O/\RowAt intL J J.heap.size A x.d):=hid ⟨k.out.1.below n k.out.1.lt,k.out.2.1.trans (n.mono (Q6 k.out.1.lt)),k.out.2.2.1.below n k.out.2.2.1.lt,k.out.2.2.2.1,(k.out.2.2.2.2.below n).more n.size⟩;clear n V P U;obtain⟨V,P,U⟩:=cells3 f.out.2.2.1;by_cases hL0:L=0
  .subst hL0;have HS:=hid (fun W=>Q.out A c W (by have:=HL.out;omega));go_wp2_with fail;refine(HS.out _ f.out.2.2.2.2).mono ?_;rintro e X ⟨rfl,z⟩;have m:Hid (Blk X a 133 #[.bool false,.slice none 0 0,.int .i64 0]/\Below a w X/\Blk X O 133 #[.bool x.neg,.slice A x.d.length c,.int .i64 x.e]):=hid ⟨f.out.1.below z f.out.1.lt,f.out.2.1.trans (z.mono (Q6 f.out.1.lt)),f.out.2.2.1.below z f.out.2.2.1.lt⟩;clear z V P U;obtain⟨V,P,U⟩:=cells3 m.out.2.2;have p0:∀j,X.frozen? ⟨a,j,none⟩=false:=m.out.1.frozen;obtain⟨k0,k1,k2⟩:=cells3 m.out.1;by_cases ht:W2 x=s
   .have R:(W2 x==s)=true:=by rw[qkq];exact ht
    have H:(W2 x != s)=false:=by rw[zrr,qqk ht];rfl
    have T:Hid (r=true):=hid (by rw[<-N.out,G.out,if_pos ⟨by have:=HL.out;omega,ht⟩];rfl);clear ht;go_wp2_with fail;have b:=((m.out.1.set_ 0 (.bool x.neg)).set_ 1 (.slice A x.d.length c)).set_ 2 (.int .i64 x.e);have e0:=b.cell 0;have e1:=b.cell 1;have e2:=b.cell 2;refine J1 (v:=.tuple #[.agg #[.bool x.neg,.slice A x.d.length c,.int .i64 x.e],.bool true]) (by rw[J2 rfl];go_simp) rfl ?_;unfold zca;rw[t.out,T.out];exact⟨_,_,_,_,_,rfl,((m.out.2.1.setCell (p:=⟨a,0,none⟩) (by simp) _).setCell (p:=⟨a,1,none⟩) (by simp) _).setCell (p:=⟨a,2,none⟩) (by simp) _⟩
   .have R:(W2 x==s)=false:=by rw[qqq];exact ht
    have H:(W2 x != s)=true:=by rw[zrr,qqx ht];rfl
    have T:Hid (r=false):=hid (by rw[<-N.out,G.out,if_neg (fun h=>ht h.2)];rfl);clear ht;go_wp2_with fail;have b:=((m.out.1.set_ 0 (.bool false)).set_ 1 (.slice none 0 0)).set_ 2 (.int .i64 0);have e0:=b.cell 0;have e1:=b.cell 1;have e2:=b.cell 2;refine J1 (v:=.tuple #[.agg #[.bool false,.slice none 0 0,.int .i64 0],.bool false]) (by rw[J2 rfl];go_simp) rfl ?_;unfold zca;rw[t.out,T.out];exact⟨_,_,_,_,_,rfl,((m.out.2.1.setCell (p:=⟨a,0,none⟩) (by simp) _).setCell (p:=⟨a,1,none⟩) (by simp) _).setCell (p:=⟨a,2,none⟩) (by simp) _⟩
  .have ab:(L==0)=false:=by simpa using hL0
   have hz1:(L != 0)=true:=by rw[bne,ab];rfl
   have T:Hid (r=false):=hid (by rw[<-N.out,G.out,if_neg (fun h=>hL0 (by have:=HL.out;omega))];rfl);have p0:∀j,J.frozen? ⟨a,j,none⟩=false:=f.out.1.frozen;obtain⟨k0,k1,k2⟩:=cells3 f.out.1;go_wp2_with fail;have b:=((f.out.1.set_ 0 (.bool false)).set_ 1 (.slice none 0 0)).set_ 2 (.int .i64 0);have e0:=b.cell 0;have e1:=b.cell 1;have e2:=b.cell 2;refine J1 (v:=.tuple #[.agg #[.bool false,.slice none 0 0,.int .i64 0],.bool false]) (by rw[J2 rfl];go_simp) rfl ?_;unfold zca;rw[t.out,T.out];exact⟨_,_,_,_,_,rfl,((f.out.2.1.setCell (p:=⟨a,0,none⟩) (by simp) _).setCell (p:=⟨a,1,none⟩) (by simp) _).setCell (p:=⟨a,2,none⟩) (by simp) _⟩
theorem zjq (s:K2) (hl:s.length<=1073741823) (w:World) (hT:UT w):
 Calls prog 42 #[.string ⟨s.toArray⟩] w fun e w'=>e=.returned (.bool (readP s).isSome)/\Below w.heap.size w w':=by
 have a:=hid (zqr s hl w hT);clear hT;obtain⟨r,b⟩:=ex ((readP s).isSome)
 unfold zb0 at a;rw[b]at a ⊢;clear b;go_enter func42,ntmps42;go_wp2_with fail;refine a.out.mono ?_;rintro e w2 ⟨x,v,rfl,⟨A,c,rfl,_⟩,_,f⟩;have d:=hid f;clear f;go_wp2;go_ret;exact⟨rfl,d.out.alloc d.out.size _⟩
theorem zup (text:K2) (hl:text.length<=1073741823):ScalOk UT 3 text (readP text).isSome:=by
 intro w c;have b:=hid (fun W g=>zjq text hl W g);have h:=hid c;obtain⟨r,a⟩:=ex ((readP text).isSome)
 rw[a]at b ⊢;clear a c;go_enter func27,ntmps27;go_wp2_with fail;refine(b.out _ h.out).mono ?_;rintro e w2 ⟨rfl,d⟩;have f:=hid d;clear d;go_wp2;go_ret;exact⟨rfl,f.out⟩
theorem zrt (text:K2):ScalOk UT 1 text (decide (text=[116,114,117,101]) || decide (text=[102,97,108,115,101])):=by
 intro w b;clear b;by_cases h1:text=[116,114,117,101]
 .subst h1;go_enter func27,ntmps27;go_wp2;go_ret;exact⟨rfl,K1 _ _⟩
 .have hb1:(text==[116,114,117,101])=false:=by rw[qqq];exact h1
  by_cases h2:text=[102,97,108,115,101]
  .subst h2;go_enter func27,ntmps27;go_wp2;go_ret;exact⟨rfl,K1 _ _⟩
  .have hb2:(text==[102,97,108,115,101])=false:=by rw[qqq];exact h2
   have a:Hid ((decide (text=[116,114,117,101]) || decide (text=[102,97,108,115,101]))=false):=hid (by simp[h1,h2]);go_enter func27,ntmps27;go_wp2;go_ret;rw[a.out];exact⟨rfl,K1 _ _⟩
theorem zns (text:K2):ScalOk UT 6 text true:=by
 intro w a;clear a;go_enter func27,ntmps27;go_wp2;go_ret;exact⟨rfl,K1 _ _⟩
open Go.RowKit Go.Sort
theorem tz64_core (x k idx:Nat) (w:World) (hx0:((x:Int)==0)=false)
 (key:IntKind.u64.wrap (bits BinOp.and IntKind.u64 (x:Int) (IntKind.u64.wrap (-(x:Int)))*285870213051353865) /288230376151711744=(idx:Int))
 (hi:idx<64) (hk:k<64) (hcell:w.cell? ⟨6,idx,none⟩=some (.int .u8 k)):
 Calls prog 143 #[.int .u64 x] w fun e w'=>e=.returned (.int .i64 k)/\w'=w:=by
 go_enter func143,ntmps143;go_wp2_with (simp only[key]);go_ret;exact⟨rfl,rfl⟩
theorem zt1 (x:Nat) (hx0:x≠0) (hx:x<18446744073709551616) (w:World) (hT:UT w):
 Calls prog 143 #[.int .u64 x] w fun e w'=>e=.returned (.int .i64 (Lib.ctz 64 x))/\w'=w:=by
 obtain⟨c,f⟩:=Lib.lowest_bit 64 x hx0 hx;obtain⟨d,b⟩:=Lib.deBruijn64_at _ f;have a:=hT.bru _ d;rw[b]at a;exact tz64_core x _ _ w (by simp;omega) (tz64_key x _ hx hx0 c) d f a
open Flt in
theorem zqk (m L:Nat) (e:Int) (h:Flt.Fits m L e) (f:Nat) (hf:fw m L e=f) (w:World) (hT:UT w):Calls prog 112 #[.float .f64 f] w fun r w'=>r=.returned (.tuple #[.int .u64 (m:Int),.int .i64 e])/\w=w':=by
 have j:=h.fw_lt.2;obtain⟨z,hz,b,_,a⟩:=h.fields;have d:=h.sig_bd;have g:m*2 ^ z<9007199254740992:=by rw[<-b];exact d.2.1
 have i:0<m*2 ^ z:=by rw[<-b];exact d.1
 have o:m<9007199254740992:=by have:=h.hi;have h2:=zfn (L+1) h.len;omega
 rw[hf]at a j;have v:=hid (fun W=>zhi f (by omega) W);have c1:=fun W=>zcm f W
 have x:=ztu f (by omega);have c:=hid (zt1 (m*2 ^ z) (by omega) (by omega) w hT);rw[zyt m z h.odd (by omega)]at c;obtain⟨M,p⟩:=ex (m*2 ^ z)
 have hdiv:(M:Int) /2 ^ z=(m:Int):=by rw[<-p];push_cast;exact Int.mul_ediv_cancel _ (by have:=Int.pow_pos (n:=2) (m:=z) (by omega);omega)
 rw[p]at c a g i;have hz0:(0:Int)<=(z:Int):=by omega
 have hz1:(z:Int)<=52:=by omega
 have hzn:((z:Int)).toNat=z:=by omega
 rcases a with⟨s,l,q⟩|⟨k,s,B,l,q⟩
 .have C:(f:Int) /4503599627370496=0:=by omega
  have t:=hid q;rw[l]at x;clear h d hf hT b p s l q j g i o;go_enter func112,ntmps112;go_wp2_with fail;refine(v.out _).mono ?_;rintro _ u ⟨rfl,rfl⟩;go_wp2_with fail;refine c.out.mono ?_;rintro _ u ⟨rfl,rfl⟩;go_wp2;go_ret2;refine⟨?_,rfl⟩;rw[t.out];rfl
 .have C:(f:Int) /4503599627370496=(k:Int)+1:=by omega
  have i3:IntKind.i64.wrap ((k:Int)+1)=(k:Int)+1:=Z3 _ (by omega);have i5:((k:Int)+1==0)=false:=by simp;omega
  have y:=or_one (f%4503599627370496) (by omega);rw[l]at y;obtain⟨Q,A⟩:=ex (f%4503599627370496)
  rw[A]at x y;have t:Hid (e=(k:Int)+1-1075+z):=hid (by omega);have hk0:(0:Int)<=(k:Int):=by omega
  have hk1:(k:Int)<=2045:=by omega
  clear h d hf hT b p s l q j g i o A B;go_enter func112,ntmps112;go_wp2_with fail;refine(v.out _).mono ?_;rintro _ u ⟨rfl,rfl⟩;go_wp2_with fail;refine c.out.mono ?_;rintro _ u ⟨rfl,rfl⟩;go_wp2;go_ret2;refine⟨?_,rfl⟩;rw[t.out];rfl
theorem zy5 (u:Nat) (hu64:u<18446744073709551616) (w:World) (hT:UT w):
 Calls prog 144 #[.int .u64 u,.int .i64 10] w fun e w'=>e=.returned (.string ⟨(Q9 u).toArray⟩)/\Below w.heap.size w w':=by
 by_cases hs:u<100
 .have m:(u:Int)<100:=by omega
  have hw:IntKind.i64.wrap (u:Int)=(u:Int):=Z3 _ (by omega);have v:=hid (fun W=>internal_strconv_small u hs W);go_enter func144,ntmps144;go_wp2_with fail;refine(v.out _).mono ?_;rintro e s ⟨rfl,rfl⟩;go_wp2;go_ret;exact⟨rfl,K1 _ _⟩
 .have m:¬(u:Int)<100:=by omega
  have c:1<=u:=by omega
  have hnd20:X7 u<=20:=by have:=Lib.numDigits_eq u c hu64;split at this<;>omega
  have f:prog.arrayLen 204=24:=by kernel_rfl
  have i:prog.underlying 204=some (.array 24 5):=underlying204;have hsl1:∀W,(Instr.sliceAt 204 (.pointer (some ⟨w.heap.size,0,none⟩)) none (some (.int .i64 (X7 u:Int))) none).run prog W=.ok (.slice (some ⟨w.heap.size,0,none⟩) (X7 u) 24) W:=fun W=>by
   rw[run_sliceAt_array_h W 204 ⟨w.heap.size,0,none⟩ (by simp[Program.arrayLen,Program.elem,i]) .i64 (X7 u:Int) (by omega) (by rw[f];omega)];go_simp
  have d:=Lib.holds_zero0 w 204 (X7 u) (by omega);have a:=internal_strconv_formatBase10 w.heap.size 0 24 u (Array.replicate (X7 u) 0) (w.alloc (.cells U3 204)) d (by rw[X5];exact Lib.lt_pow_nDigits u) hu64 (by rw[X5];omega);rw[X5]at a;have x:=hid a;have n:=hid d;have p:=hid (fun W (hW:UT W)=>internal_strconv_numDigits u c hu64 W hW.pow);have r:Hid (UT (w.alloc (.cells U3 204))):=hid (Q1 _ _ hT ((K1 _ _).alloc (K4 _) _));clear d a f i hT hs c;go_enter func144,ntmps144;go_wp2_with fail;refine(p.out _ r.out).mono ?_;rintro e s ⟨rfl,rfl⟩;go_wp2_with fail;refine x.out.mono ?_;rintro e s ⟨rfl,k,v',g,rfl,l⟩;have hcv:(convert 80 9 (.slice (some ⟨w.heap.size,0,none⟩) (X7 u) 24)).run prog ((putRow (fun(b:UInt8)=>Value.int .u8 (b.toNat:Int)) (w.alloc (.cells U3 204)) w.heap.size 0 g).drewN k)=.ok (.string ⟨(Q9 u).toArray⟩) ((putRow (fun(b:UInt8)=>Value.int .u8 (b.toNat:Int)) (w.alloc (.cells U3 204)) w.heap.size 0 g).drewN k):=by
   have h:=run_convert_bytes_back (P:=prog) ((putRow (fun(b:UInt8)=>Value.int .u8 (b.toNat:Int)) (w.alloc (.cells U3 204)) w.heap.size 0 g).drewN k) 80 9 5 ⟨w.heap.size,0,none⟩ 24 (Q9 u) underlying80 underlying5 underlying9 (fun j q=>by
    rw[Lib.row_is_numeral l j q,Lib.add_plain,World.cell?_drewN];exact cell?_putRow (fun(b:UInt8)=>Value.int .u8 (b.toNat:Int)) _ w.heap.size 0 _ g n.out (by rw[l.size,X5]) j (by rw[l.size];rw[V0]at q;exact q))
   rw[V0]at h;exact h
  obtain⟨os,t⟩:=Lib.fin_at w (.cells U3 204) g k 0;have o:=hid t;clear l t;go_wp2;go_ret;refine⟨rfl,?_⟩;rw[o.out];exact Lib.below_grow _ _ (K4 _) _ _
theorem zw2 (u:Nat) (hu64:u<18446744073709551616) (w:World) (hT:UT w):
 Calls prog 113 #[.int .u64 u,.int .i64 10] w fun e w'=>e=.returned (.string ⟨(Q9 u).toArray⟩)/\Below w.heap.size w w':=by
 have b:=hid (zy5 u hu64 w hT);clear hT;go_enter func113,ntmps113;go_wp2_with fail;refine b.out.mono ?_;rintro e w1 ⟨rfl,a⟩;have c:=hid a;clear a;go_wp2;go_ret;exact⟨rfl,c.out⟩
open Flt in
theorem zql (m L:Nat) (e:Int) (h:Flt.Fits m L e) (f:Nat) (hf:fw m L e=f) (w:World) (hT:UT w):Calls prog 83 #[.float .f64 f] w fun r w'=>r=.returned (.string ⟨(Q9 m++112::W1 e).toArray⟩)/\Below w.heap.size w w':=by
 have hlt:=h.fw_lt.2;have G:=h.o_zero;have H:=h.o_self;have hmb:m<9007199254740992:=by have:=h.hi;have v:=zfn (L+1) h.len;omega
 have F:=hid (fun W=>zln f (by omega) (by rw[<-hf];exact h.o_max) W);have A:=hid (fun W=>zp4 f (by omega) W);have o:=hid (fun W l=>zqk m L e h f hf W l);have he0:=h.e0;have he1:=h.e1;have z:=hid (fun W l=>zw2 m (by omega) W l);have i:=hid (fun W l=>zhm e (by omega) (by omega) W l);have B:(Q9 m).length<=20:=by
  have v:=congrArg List.length (Gr.zqi 20 m (by omega) (by omega));rw[Q8,List.length_replicate,Gr.za9]at v;omega
 have C:=zhn e (by omega) (by omega);obtain⟨D,s⟩:∃D:K2,Q9 m=D:=⟨_,rfl⟩
 obtain⟨I,t⟩:∃I:K2,W1 e=I:=⟨_,rfl⟩
 rw[s]at z B;rw[t]at i C;obtain⟨s1,a⟩:∃x:K2,[]++D=x:=⟨_,rfl⟩
 have Ls1:s1.length<=30:=by rw[<-a];simp;omega
 have q:=fun W=>zad [] D (by simp;omega) W
 rw[a]at q;obtain⟨s2,b⟩:∃x:K2,s1++[112]=x:=⟨_,rfl⟩
 have Ls2:s2.length<=40:=by rw[<-b];simp;omega
 have p:=fun W=>zad s1 [112] (by simp;omega) W
 rw[b]at p;obtain⟨s3,c⟩:∃x:K2,s2++I=x:=⟨_,rfl⟩
 have n:=fun W=>zad s2 I (by omega) W
 rw[c]at n;have E:Hid (D++112::I=s3):=hid (by rw[<-c,<-b,<-a];simp);have g:=hid hT;rw[hf]at G H;rw[s,t];clear h hf hT s t a b c;go_enter func83,ntmps83;go_wp2_with fail;refine(A.out _).mono ?_;rintro r y ⟨rfl,rfl⟩;go_wp2_with fail;refine(F.out _).mono ?_;rintro r y ⟨rfl,rfl⟩;go_wp2_with fail;refine(o.out _ g.out).mono ?_;rintro r y ⟨rfl,rfl⟩;go_wp2_with fail;refine(z.out _ g.out).mono ?_;rintro r w2 ⟨rfl,j⟩;have d:=hid j;clear j;go_wp2_with fail;refine(i.out _ (Q1 _ _ g.out d.out)).mono ?_;rintro r w3 ⟨rfl,k⟩;have u:=hid (d.out.trans (k.mono d.out.size));clear k;go_wp2;go_ret;rw[E.out];exact⟨rfl,u.out⟩
theorem znc (m:Nat) (h0:m≠0) (h:m<18446744073709551616):E8 m=m.log2+1/\2 ^ m.log2<=m/\m<2 ^ (m.log2+1):=by
 have a:=Nat.log2_self_le h0;have b:m<2 ^ (m.log2+1):=Nat.lt_log2_self;refine⟨?_,a,b⟩;rw[Lib.bitLen_shift m.log2 m a h];have:m /2 ^ m.log2=1:=by
  apply Nat.div_eq_of_lt_le
  .simpa using a
  .rw[Nat.pow_succ]at b;omega
 rw[this];rfl
theorem zw4 (m:Nat) (e:Int) (hm:m<18446744073709551616) (h:fitsB m e=true):∃L,Flt.Fits m L e:=by
 unfold fitsB at h;simp only[K6,qqv,qkq]at h;obtain⟨⟨⟨⟨a,h2⟩,c⟩,h4⟩,g⟩:=h;obtain⟨f,b,d⟩:=znc m (by omega) hm;exact⟨m.log2,a,b,d,by omega,c,by rw[f]at g;omega⟩
theorem zt5 (m:Nat) (hm:m<18446744073709551616) (e:Int) (h0:-9223372036854775808<=e) (h1:e<=9223372036854775807) (w:World):Calls prog 81 #[.int .u64 m,.int .i64 e] w fun r w'=>r=.returned (.bool (fitsB m e))/\w=w':=by
 have c:=hid (fun W=>bits_Len64 (m:Int) W (by omega) (by omega));have g:E8 m<=64:=Lib.bitLen_le m 64 (by omega) (by omega);have l:((m:Int)).toNat=m:=by omega
 rw[l]at c;obtain⟨b,h⟩:=ex (E8 m)
 have d:Hid (fitsB m e=(decide (m%2=1) && decide (b<=53) && decide (-1074<=e) && decide (e<=1023) && decide (e+b<=1024))):=hid (by unfold fitsB;rw[h];rfl);rw[h]at c g;clear h l;obtain⟨r,k⟩:=ex (fitsB m e)
 rw[k]at d ⊢;clear k;by_cases k1:m%2=1
 .have i:(m:Int)%2=1:=by omega
  have j:((m:Int)%2==1)=true:=by simpa using i
  by_cases k2:b<=53
  .have n:(b:Int)<=53:=by omega
   by_cases k3:-1074<=e
   .by_cases k4:e<=1023
    .by_cases k5:e+b<=1024
     .have a:Hid (r=true):=hid (by rw[d.out];simp[k1,k2,k3,k4,k5]);clear k1 k2;go_enter func81,ntmps81;go_wp2_with fail;refine(c.out _).mono ?_;rintro _ f ⟨rfl,rfl⟩;go_wp2;go_ret;rw[a.out];exact⟨by first|rfl|simp[*],rfl⟩
     .have a:Hid (r=false):=hid (by rw[d.out];simp[k5]);clear k1 k2;go_enter func81,ntmps81;go_wp2_with fail;refine(c.out _).mono ?_;rintro _ f ⟨rfl,rfl⟩;go_wp2;go_ret;rw[a.out];exact⟨by first|rfl|simp[*],rfl⟩
    .have a:Hid (r=false):=hid (by rw[d.out];simp[k4]);clear k1 k2;go_enter func81,ntmps81;go_wp2_with fail;refine(c.out _).mono ?_;rintro _ f ⟨rfl,rfl⟩;go_wp2;go_ret;rw[a.out];exact⟨by first|rfl|simp[*],rfl⟩
   .have a:Hid (r=false):=hid (by rw[d.out];simp[k3]);clear k1 k2;go_enter func81,ntmps81;go_wp2_with fail;refine(c.out _).mono ?_;rintro _ f ⟨rfl,rfl⟩;go_wp2;go_ret;rw[a.out];exact⟨by first|rfl|simp[*],rfl⟩
  .have n:¬(b:Int)<=53:=by omega
   have a:Hid (r=false):=hid (by rw[d.out];simp[k2]);clear k1 k2;go_enter func81,ntmps81;go_wp2_with fail;refine(c.out _).mono ?_;rintro _ f ⟨rfl,rfl⟩;go_wp2;go_ret;rw[a.out];exact⟨by first|rfl|simp[*],rfl⟩
 .have i:¬(m:Int)%2=1:=by omega
  have j:((m:Int)%2==1)=false:=by simpa using i
  have a:Hid (r=false):=hid (by rw[d.out];simp[k1]);clear k1;go_enter func81,ntmps81;go_wp2_with fail;refine(c.out _).mono ?_;rintro _ f ⟨rfl,rfl⟩;go_wp2;go_ret;rw[a.out];exact⟨by first|rfl|simp[*],rfl⟩
theorem zt6 (s:K2) (w:World):(callFunc 127 #[.string ⟨s.toArray⟩,.int .u8 112]).run prog w=.ok (.value (.int .i64 (U4 s 112))) w:=by
 rw[run_callFunc_extern func127 (by kernel_rfl) (by kernel_rfl) (by kernel_rfl) (e:=Extern.BytealgIndexByte.indexByte) (by kernel_rfl),Lib.run_indexByteString];rfl
theorem zt7 (s:K2) (w:World):Calls prog 97 #[.string ⟨s.toArray⟩,.int .u8 112] w fun e w'=>e=.returned (.int .i64 (U4 s 112))/\w=w':=by
 have c1:=fun W=>zt6 s W
 go_enter func97,ntmps97;go_wp2;go_ret;exact⟨rfl,rfl⟩
theorem zw5 (s:K2) (w:World):Calls prog 137 #[.string ⟨s.toArray⟩,.string ⟨#[112]⟩] w fun e w'=>e=.returned (.int .i64 (U4 s 112))/\w=w':=by
 by_cases hs:[112]=s
 .subst hs;go_enter func137,ntmps137;go_wp2;go_ret;exact⟨rfl,rfl⟩
 .have h1:(([112]:List UInt8)==s)=false:=by rw[qqq];exact hs
  have h2:(s==([112]:List UInt8))=false:=by rw[qqq];exact fun e=>hs e.symm
  have a:=hid (fun W=>zt7 s W);obtain⟨i,b⟩:=ex (U4 s 112)
  rw[b]at a ⊢;clear b;go_enter func137,ntmps137;go_wp2_with fail;refine(a.out _).mono ?_;rintro _ w1 ⟨rfl,rfl⟩;go_wp2;go_ret;exact⟨rfl,rfl⟩
def cutV (t:K2):Value:=match t.dropWhile (fun c=>c != 112)with
 | []=>.tuple #[.string ⟨t.toArray⟩,.string ⟨#[]⟩,.bool false]
 |_::b=>.tuple #[.string ⟨(Z7 t).toArray⟩,.string ⟨b.toArray⟩,.bool true]
theorem zlt (t:K2) {c:UInt8} {b:K2} (h:t.dropWhile (fun c=>c != 112)=c::b):t=Z7 t++c::b:=by
 have:=Z0 (p:=fun c:UInt8=>c != 112) (l:=t);rw[h]at this;exact this.symm
theorem zy6 (t:K2) (hl:t.length<=1073741823) (w:World):Calls prog 105 #[.string ⟨t.toArray⟩,.string ⟨#[112]⟩] w fun e w'=>e=.returned (cutV t)/\Below w.heap.size w w':=by
 have h:=hid (fun W=>zw5 t W);have d:=zkq t 112;unfold cutV;cases hd:t.dropWhile (fun c=>c != 112)with
 |nil=>
  rw[if_pos hd]at d;rw[d]at h;clear d hd;go_enter func105,ntmps105;go_wp2_with fail;refine(h.out _).mono ?_;rintro _ i ⟨rfl,rfl⟩;go_wp2_with fail;exact J1 (v:=.tuple #[.string ⟨t.toArray⟩,.string ⟨#[]⟩,.bool false]) (by simp[results,go_sem]) rfl ⟨rfl,K1 _ _⟩
 |cons c b=>
  rw[if_neg (by rw[hd];exact List.cons_ne_nil _ _)]at d;have f:=zlt t hd;obtain⟨a,g⟩:=ex (Z7 t)
  have d:U4 t 112=((Z7 t).length:Int):=d;rw[d,g]at h;rw[g]at f;simp only;rw[g];have hla:a.length+1<=t.length:=by rw[f];simp
  have hlaI:(a.length:Int)+1<=(t.length:Int):=by omega
  have e1:(⟨t.toArray⟩:ByteArray).extract 0 a.length=⟨a.toArray⟩:=by rw[zav,f];simp
  have e2:(⟨t.toArray⟩:ByteArray).extract (a.length+1) t.length=⟨b.toArray⟩:=by rw[zav,Y5 (by simp),f];simp
  clear d hd g f;have i1:IntKind.i64.wrap ((a.length:Int)+1)=(a.length:Int)+1:=Z3 _ (by omega);have i2:((a.length:Int)+1).toNat=a.length+1:=by omega
  have i3:(0:Int)<=(a.length:Int)+1:=by omega
  go_enter func105,ntmps105;go_wp2_with fail;refine(h.out _).mono ?_;rintro _ i ⟨rfl,rfl⟩;go_wp2_with fail;go_quiet (fail);go_wp2_with fail;exact J1 (v:=.tuple #[.string ⟨a.toArray⟩,.string ⟨b.toArray⟩,.bool true]) (by simp[results,go_sem]) rfl ⟨rfl,below_drewN (K1 _ _) _⟩
theorem zw6 (t:K2) (hl:t.length<=1073741823) (w:World):Calls prog 79 #[.string ⟨t.toArray⟩,.string ⟨#[112]⟩] w fun e w'=>e=.returned (cutV t)/\Below w.heap.size w w':=by
 have d:=hid (zy6 t hl w);unfold cutV at d ⊢;cases hd:t.dropWhile (fun c=>c != 112)with
 |nil=>
  rw[hd]at d;simp only at d;clear hd;go_enter func79,ntmps79;go_wp2_with fail;refine d.out.mono ?_;rintro _ i ⟨rfl,f⟩;have g:=hid f;clear f;go_wp2_with fail;exact J1 (v:=.tuple #[.string ⟨t.toArray⟩,.string ⟨#[]⟩,.bool false]) (by simp[results,go_sem]) rfl ⟨rfl,g.out⟩
 |cons c b=>
  rw[hd]at d;simp only at d ⊢;obtain⟨a,h⟩:=ex (Z7 t)
  rw[h]at d ⊢;clear hd h;go_enter func79,ntmps79;go_wp2_with fail;refine d.out.mono ?_;rintro _ i ⟨rfl,f⟩;have g:=hid f;clear f;go_wp2_with fail;exact J1 (v:=.tuple #[.string ⟨a.toArray⟩,.string ⟨b.toArray⟩,.bool true]) (by simp[results,go_sem]) rfl ⟨rfl,g.out⟩
def FPost (b:Bool) (w:World) (e:Ending) (w':World):Prop:=(∃g:Nat,e=.returned (.tuple #[.float .f64 g,.bool b]))/\Below w.heap.size w w'
theorem zy7 (a:K2) (hl:a.length<=1073741823) (w:World) (hT:UT w):Calls prog 80 #[.string ⟨a.toArray⟩,.int .i64 10,.int .i64 64] w fun e w'=>(∃(v:Int) (er:Value),e=.returned (.tuple #[.int .u64 v,er]))/\Below w.heap.size w w':=by
 have hs:(⟨a.toArray⟩:ByteArray).size=a.length:=by simp[ByteArray.size]
 cases h:Y4 64 (⟨a.toArray⟩:ByteArray).data.toList with
 |ok u=>
  refine(strconv_ParseUint_10_at64_ok ⟨a.toArray⟩ (by omega) u h w).mono ?_;rintro e w' ⟨rfl,f⟩;refine⟨⟨_,_,rfl⟩,?_⟩;rcases f with rfl|rfl
  .exact K1 _ _
  .exact X8 _ _ _
 |range=>
  obtain⟨c,p,b⟩:=hT.er;refine(strconv_ParseUint_10_at64_range ⟨a.toArray⟩ (by omega) h _ w b (.inr ⟨c,p,rfl⟩)).mono ?_;rintro e w' ⟨N,rfl,_,_,d⟩;exact⟨⟨_,_,rfl⟩,d⟩
 |_=>
  obtain⟨c,p,b⟩:=hT.es;refine(strconv_ParseUint_10_at64_syntax ⟨a.toArray⟩ (by omega) h _ w b (.inr ⟨c,p,rfl⟩)).mono ?_;rintro e w' ⟨N,rfl,_,_,d⟩;exact⟨⟨_,_,rfl⟩,d⟩
theorem zz4 (a:K2) (hl:a.length<=1073741823) (u:Nat) (h:Y4 64 a=.ok u) (w:World):Calls prog 80 #[.string ⟨a.toArray⟩,.int .i64 10,.int .i64 64] w fun e w'=>e=.returned (.tuple #[.int .u64 u,.nilIface])/\Below w.heap.size w w':=by
 have hs:(⟨a.toArray⟩:ByteArray).size=a.length:=by simp[ByteArray.size]
 refine(strconv_ParseUint_10_at64_ok ⟨a.toArray⟩ (by omega) u h w).mono ?_;rintro e w' ⟨rfl,b⟩;refine⟨rfl,?_⟩;rcases b with rfl|rfl
 .exact K1 _ _
 .exact X8 _ _ _
theorem zz5 (a:K2) (hl:a.length<=1073741823) (h:∀u,Y4 64 a≠.ok u) (w:World) (hT:UT w):Calls prog 80 #[.string ⟨a.toArray⟩,.int .i64 10,.int .i64 64] w fun e w'=>(∃(v:Int) (te:TypeId) (p:Value),e=.returned (.tuple #[.int .u64 v,.iface te p]))/\Below w.heap.size w w':=by
 have hs:(⟨a.toArray⟩:ByteArray).size=a.length:=by simp[ByteArray.size]
 cases h2:Y4 64 (⟨a.toArray⟩:ByteArray).data.toList with
 |ok u=>exact absurd h2 (h u)
 |range=>
  obtain⟨te,p,b⟩:=hT.er;refine(strconv_ParseUint_10_at64_range ⟨a.toArray⟩ (by omega) h2 _ w b (.inr ⟨te,p,rfl⟩)).mono ?_;rintro e w' ⟨N,rfl,_,_,c⟩;exact⟨⟨_,_,_,rfl⟩,c⟩
 |_=>
  obtain⟨te,p,b⟩:=hT.es;refine(strconv_ParseUint_10_at64_syntax ⟨a.toArray⟩ (by omega) h2 _ w b (.inr ⟨te,p,rfl⟩)).mono ?_;rintro e w' ⟨N,rfl,_,_,c⟩;exact⟨⟨_,_,_,rfl⟩,c⟩
theorem zqs (a:K2) (hl:a.length<=1073741823) (w:World) (hT:UT w):Calls prog 70 #[.string ⟨a.toArray⟩] w fun e w'=>(∃(v:Int) (er:Value),e=.returned (.tuple #[.int .i64 v,er]))/\Below w.heap.size w w':=by
 have hs:(⟨a.toArray⟩:ByteArray).size=a.length:=by simp[ByteArray.size]
 cases h:X1 (⟨a.toArray⟩:ByteArray).data.toList with
 |ok u=>
  refine(strconv_Atoi_ok ⟨a.toArray⟩ (by omega) u h w).mono ?_;rintro e w' ⟨rfl,f⟩;refine⟨⟨_,_,rfl⟩,?_⟩;rcases f with rfl|⟨t,rfl⟩
  .exact K1 _ _
  .exact X8 _ _ _
 |range=>
  obtain⟨c,p,b⟩:=hT.er;refine(strconv_Atoi_range ⟨a.toArray⟩ (by omega) h _ w b (.inr ⟨c,p,rfl⟩)).mono ?_;rintro e w' ⟨N,rfl,_,_,d⟩;exact⟨⟨_,_,rfl⟩,d⟩
 |_=>
  obtain⟨c,p,b⟩:=hT.es;refine(strconv_Atoi_syntax ⟨a.toArray⟩ (by omega) h _ w b (.inr ⟨c,p,rfl⟩)).mono ?_;rintro e w' ⟨N,rfl,_,_,d⟩;exact⟨⟨_,_,rfl⟩,d⟩
theorem zz6 (a:K2) (hl:a.length<=1073741823) (u:Int) (h:X1 a=.ok u) (w:World):Calls prog 70 #[.string ⟨a.toArray⟩] w fun e w'=>e=.returned (.tuple #[.int .i64 u,.nilIface])/\Below w.heap.size w w':=by
 have hs:(⟨a.toArray⟩:ByteArray).size=a.length:=by simp[ByteArray.size]
 refine(strconv_Atoi_ok ⟨a.toArray⟩ (by omega) u h w).mono ?_;rintro e w' ⟨rfl,b⟩;refine⟨rfl,?_⟩;rcases b with rfl|⟨t,rfl⟩
 .exact K1 _ _
 .exact X8 _ _ _
theorem zz7 (a:K2) (hl:a.length<=1073741823) (h:∀u,X1 a≠.ok u) (w:World) (hT:UT w):Calls prog 70 #[.string ⟨a.toArray⟩] w fun e w'=>(∃(v:Int) (te:TypeId) (p:Value),e=.returned (.tuple #[.int .i64 v,.iface te p]))/\Below w.heap.size w w':=by
 have hs:(⟨a.toArray⟩:ByteArray).size=a.length:=by simp[ByteArray.size]
 cases h2:X1 (⟨a.toArray⟩:ByteArray).data.toList with
 |ok u=>exact absurd h2 (h u)
 |range=>
  obtain⟨te,p,b⟩:=hT.er;refine(strconv_Atoi_range ⟨a.toArray⟩ (by omega) h2 _ w b (.inr ⟨te,p,rfl⟩)).mono ?_;rintro e w' ⟨N,rfl,_,_,c⟩;exact⟨⟨_,_,_,rfl⟩,c⟩
 |_=>
  obtain⟨te,p,b⟩:=hT.es;refine(strconv_Atoi_syntax ⟨a.toArray⟩ (by omega) h2 _ w b (.inr ⟨te,p,rfl⟩)).mono ?_;rintro e w' ⟨N,rfl,_,_,c⟩;exact⟨⟨_,_,_,rfl⟩,c⟩
theorem zt8 {l:List UInt8} {v:Int} (h:X1 l=.ok v):-9223372036854775808<=v/\v<=9223372036854775807:=Lib.atoiAll_bounds h
theorem zy8 {l:List UInt8} {v:Nat} (h:Y4 64 l=.ok v):v<18446744073709551616:=by
 have:=Lib.parseUintB_le h;omega
theorem zqt (f g:Nat) (w:World):Calls prog 84 #[.float .f64 f,.float .f64 g] w fun e w'=>(∃x:Nat,e=.returned (.float .f64 x))/\w=w':=by
 have c1:=fun(n:Nat) W=>zcm n W
 have c2:=fun(n:Int) W=>za2 n W
 go_enter func84,ntmps84;go_wp2;go_ret;exact⟨⟨_,rfl⟩,rfl⟩
theorem zw7 (w:World):Calls prog 77 #[] w fun e w'=>(∃x:Nat,e=.returned (.float .f64 x))/\w=w':=by
 have c2:=fun W=>za2 9221120237041090561 W
 go_enter func77,ntmps77;go_wp2;go_ret;exact⟨⟨_,rfl⟩,rfl⟩
theorem zw8 (w:World):Calls prog 78 #[.int .i64 1] w fun e w'=>(∃x:Nat,e=.returned (.float .f64 x))/\w=w':=by
 have c2:=fun(n:Int) W=>za2 n W
 go_enter func78,ntmps78;go_wp2;go_ret;exact⟨⟨_,rfl⟩,rfl⟩
theorem zqu (m L:Nat) (e:Int) (h:Flt.Fits m L e) (f:Nat) (hf:Flt.fw m L 0=f) (w:World):Calls prog 82 #[.float .f64 f,.int .i64 e] w fun r w'=>r=.returned (.float .f64 (Flt.fw m L e))/\w=w':=by
 have a:=hid (fun W=>zp6 m L e h f hf W);clear h hf;go_enter func82,ntmps82;go_wp2_with fail;refine(a.out _).mono ?_;rintro _ w1 ⟨rfl,rfl⟩;go_wp2;go_ret;exact⟨rfl,rfl⟩
theorem zz8 (s:K2):W0 s [45]=E5 s:=by
 unfold W0 W6 E5;cases s with
 |nil=>rfl
 |cons c r=>
  by_cases h:c=45
  .subst h;simp
  .have:((45:UInt8)==c)=false:=by rw[qqq];exact fun e=>h e.symm
   simp[h];exact fun e=>h e.symm
theorem zt9 (s:K2) (w:World):Calls prog 76 #[.string ⟨s.toArray⟩,.string ⟨#[45]⟩] w fun e w'=>e=.returned (.tuple #[.string ⟨(E5 s).toArray⟩,.bool (W6 s [45])])/\w'=w:=by
 have:=strings_CutPrefix ⟨s.toArray⟩ ⟨#[45]⟩ w;have a:W0 (⟨s.toArray⟩:ByteArray).data.toList (⟨#[45]⟩:ByteArray).data.toList=E5 s:=by rw[<-zz8]
 rw[a]at this;exact this
theorem zy9 (s:K2):(E5 s).length<=s.length:=by
 unfold E5;split
 .simp
 .omega
theorem znd (s:K2) (hl:s.length<=1073741823) (w:World) (hT:UT w):Calls prog 56 #[.string ⟨s.toArray⟩] w (FPost (fltP s) w):=by
 have Z:=hid hT;have o:=hid (fun W=>zt9 s W);have ae:=zy9 s;obtain⟨V,O⟩:=ex (W6 s [45])
 obtain⟨t,ht⟩:=ex (E5 s)
 rw[O,ht]at o;rw[ht]at ae;have HP:Hid (fltP s=if s=[110,97,110]then true else if t=[105,110,102]then true else if t=[48,112,48]then true else fltN t):=hid (by rw[<-ht];rfl);have S:=hid (fun f g W=>zqt f g W);obtain⟨r,hr⟩:=ex (fltP s)
 rw[hr]at HP ⊢;clear hT O ht hr;by_cases hnan:s=[110,97,110]
 .have h1:(s==([110,97,110]:List UInt8))=true:=by rw[qkq];exact hnan
  have p:Hid (r=true):=hid (by rw[HP.out,if_pos hnan]);have HN:=hid (fun W=>zw7 W);clear hnan HP;go_enter func56,ntmps56;go_wp2_with fail;refine(o.out _).mono ?_;rintro _ B ⟨rfl,rfl⟩;go_wp2_with fail;refine(HN.out _).mono ?_;rintro _ B ⟨⟨x,rfl⟩,rfl⟩;go_wp2;go_ret2;rw[p.out];exact⟨⟨x,rfl⟩,K1 _ _⟩
 .have h1:(s==([110,97,110]:List UInt8))=false:=by rw[qqq];exact hnan
  have I:Hid (r=if t=[105,110,102]then true else if t=[48,112,48]then true else fltN t):=hid (by rw[HP.out,if_neg hnan]);clear hnan HP;by_cases hinf:t=[105,110,102]
  .have h2:(t==([105,110,102]:List UInt8))=true:=by rw[qkq];exact hinf
   have p:Hid (r=true):=hid (by rw[I.out,if_pos hinf]);have HN:=hid (fun W=>zw8 W);clear hinf I;cases V
   all_goals
    go_enter func56,ntmps56;go_wp2_with fail;refine(o.out _).mono ?_;rintro _ B ⟨rfl,rfl⟩;go_wp2_with fail;refine(HN.out _).mono ?_;rintro _ B ⟨⟨x,rfl⟩,rfl⟩;go_wp2_with fail
   .go_ret2;rw[p.out];exact⟨⟨_,rfl⟩,K1 _ _⟩
   .refine(S.out _ _ _).mono ?_;rintro _ B ⟨⟨y,rfl⟩,rfl⟩;go_wp2;go_ret2;rw[p.out];exact⟨⟨_,rfl⟩,K1 _ _⟩
  .have h2:(t==([105,110,102]:List UInt8))=false:=by rw[qqq];exact hinf
   have H:Hid (r=if t=[48,112,48]then true else fltN t):=hid (by rw[I.out,if_neg hinf]);clear hinf I;by_cases hz:t=[48,112,48]
   .have h3:(t==([48,112,48]:List UInt8))=true:=by rw[qkq];exact hz
    have p:Hid (r=true):=hid (by rw[H.out,if_pos hz]);clear hz H;cases V
    all_goals
     go_enter func56,ntmps56;go_wp2_with fail;refine(o.out _).mono ?_;rintro _ B ⟨rfl,rfl⟩;go_wp2_with fail
    .go_ret2;rw[p.out];exact⟨⟨_,rfl⟩,K1 _ _⟩
    .refine(S.out _ _ _).mono ?_;rintro _ B ⟨⟨y,rfl⟩,rfl⟩;go_wp2;go_ret2;rw[p.out];exact⟨⟨_,rfl⟩,K1 _ _⟩
   .have h3:(t==([48,112,48]:List UInt8))=false:=by rw[qqq];exact hz
    have aa:Hid (r=fltN t):=hid (by rw[H.out,if_neg hz]);have C:=hid (fun W=>zw6 t (by omega) W);clear hz H;unfold cutV at C;have M:Hid (r=match t.dropWhile (fun c=>c != 112)with| []=>false|_::b=>match Y4 64 (Z7 t)with| .ok m=>(match X1 b with| .ok e=>fitsB m e && decide (Q9 m++112::W1 e=t)|_=>false)|_=>false):=hid aa.out;clear aa;cases hd:t.dropWhile (fun c=>c != 112)with
    |nil=>
     rw[hd]at C;simp only at C;have p:Hid (r=false):=hid (by rw[M.out,hd]);have A:=hid (fun W G=>zy7 t (by omega) W G);have q:=hid (fun W G=>zqs [] (by simp) W G);clear hd M;go_enter func56,ntmps56;go_wp2_with fail;refine(o.out _).mono ?_;rintro _ B ⟨rfl,rfl⟩;go_wp2_with fail;refine(C.out _).mono ?_;rintro _ w2 ⟨rfl,i⟩;have d:=hid (And.intro i (Q1 _ _ Z.out i));clear i;go_wp2_with fail;refine(A.out _ d.out.2).mono ?_;rintro _ w3 ⟨⟨v,er,rfl⟩,h⟩;have j:=hid (And.intro (d.out.1.trans (h.mono d.out.1.size)) (Q1 _ _ d.out.2 h));clear h;go_wp2_with fail;refine(q.out _ j.out.2).mono ?_;rintro _ w4 ⟨⟨v2,ac,rfl⟩,k⟩;have l:=hid (j.out.1.trans (k.mono j.out.1.size));clear k;go_wp2;go_ret2;rw[p.out];exact⟨⟨_,rfl⟩,l.out⟩
    |cons c b=>
     have ab:=zlt t hd;have hbl:b.length<=t.length:=by rw[ab];simp;omega
     have ad:(Z7 t).length<=t.length:=by unfold Z7;exact(W9 _).length_le
     rw[hd]at C;simp only at C;have n:Hid (r=match Y4 64 (Z7 t)with| .ok m=>(match X1 b with| .ok e=>fitsB m e && decide (Q9 m++112::W1 e=t)|_=>false)|_=>false):=hid (by rw[M.out,hd]);obtain⟨a,ha⟩:=ex (Z7 t)
     rw[ha]at C n ad;clear hd M ab ha;by_cases hpu:∃m,Y4 64 a=.ok m
     .obtain⟨m,P⟩:=hpu;have z:=zy8 P;have A:=hid (fun W=>zz4 a (by omega) m P W);rw[P]at n;by_cases hat:∃e,X1 b=.ok e
      .obtain⟨e,X⟩:=hat;have K:=zt8 X;have q:=hid (fun W=>zz6 b (by omega) e X W);have E:=hid (fun W=>zt5 m z e K.1 K.2 W);rw[X]at n;simp only at n;cases hfit:fitsB m e with
       |false=>
        have p:Hid (r=false):=hid (by rw[n.out,hfit];rfl);rw[hfit]at E;clear P X n hfit z K;go_enter func56,ntmps56;go_wp2_with fail;refine(o.out _).mono ?_;rintro _ B ⟨rfl,rfl⟩;go_wp2_with fail;refine(C.out _).mono ?_;rintro _ w2 ⟨rfl,i⟩;have d:=hid (And.intro i (Q1 _ _ Z.out i));clear i;go_wp2_with fail;refine(A.out _).mono ?_;rintro _ w3 ⟨rfl,h⟩;have j:=hid (And.intro (d.out.1.trans (h.mono d.out.1.size)) (Q1 _ _ d.out.2 h));clear h;go_wp2_with fail;refine(q.out _).mono ?_;rintro _ w4 ⟨rfl,k⟩;have l:=hid (And.intro (j.out.1.trans (k.mono j.out.1.size)) (Q1 _ _ j.out.2 k));clear k;go_wp2_with fail;refine(E.out _).mono ?_;rintro _ w5 ⟨rfl,rfl⟩;go_wp2;go_ret2;rw[p.out];exact⟨⟨_,rfl⟩,l.out.1⟩
       |true=>
        obtain⟨L,hL⟩:=zw4 m e z hfit;obtain⟨f,hf⟩:=ex (Flt.fw m L 0)
        obtain⟨F,U⟩:=ex (Flt.fw m L e)
        have R:=hid (fun W=>zqu m L e hL f hf W);have Y:=hid (fun W G=>zql m L e hL F U W G);have hcv:floatOfInt .f64 (m:Int)=f:=by rw[hL.ofNat,<-hf,hL.at0.fw0]
        obtain⟨T,Q⟩:∃T:K2,Q9 m++112::W1 e=T:=⟨_,rfl⟩
        rw[Q]at Y;rw[U]at R;have N:Hid (r=decide (T=t)):=hid (by rw[n.out,hfit,Q];rfl);rw[hfit]at E;clear P X n hfit z K hL hf U Q;by_cases hTt:T=t
        .have q1:(T==t)=true:=by rw[qkq];exact hTt
         have q2:(T != t)=false:=by rw[bne,q1];rfl
         have p:Hid (r=true):=hid (by rw[N.out,qqk hTt]);clear hTt N;cases V
         all_goals
          go_enter func56,ntmps56;go_wp2_with fail;refine(o.out _).mono ?_;rintro _ B ⟨rfl,rfl⟩;go_wp2_with fail;refine(C.out _).mono ?_;rintro _ w2 ⟨rfl,i⟩;have d:=hid (And.intro i (Q1 _ _ Z.out i));clear i;go_wp2_with fail;refine(A.out _).mono ?_;rintro _ w3 ⟨rfl,h⟩;have j:=hid (And.intro (d.out.1.trans (h.mono d.out.1.size)) (Q1 _ _ d.out.2 h));clear h;go_wp2_with fail;refine(q.out _).mono ?_;rintro _ w4 ⟨rfl,k⟩;have l:=hid (And.intro (j.out.1.trans (k.mono j.out.1.size)) (Q1 _ _ j.out.2 k));clear k;go_wp2_with fail;refine(E.out _).mono ?_;rintro _ w5 ⟨rfl,rfl⟩;go_wp2_with fail;refine(R.out _).mono ?_;rintro _ w6 ⟨rfl,rfl⟩;go_wp2_with fail;refine(Y.out _ l.out.2).mono ?_;rintro _ w7 ⟨rfl,D⟩;have J:=hid (l.out.1.trans (D.mono l.out.1.size));clear D;go_wp2_with fail
         .go_ret2;rw[p.out];exact⟨⟨_,rfl⟩,J.out⟩
         .refine(S.out _ _ _).mono ?_;rintro _ B ⟨⟨y,rfl⟩,rfl⟩;go_wp2;go_ret2;rw[p.out];exact⟨⟨_,rfl⟩,J.out⟩
        .have q1:(T==t)=false:=by rw[qqq];exact hTt
         have q2:(T != t)=true:=by rw[bne,q1];rfl
         have p:Hid (r=false):=hid (by rw[N.out,qqx hTt]);clear hTt N;go_enter func56,ntmps56;go_wp2_with fail;refine(o.out _).mono ?_;rintro _ B ⟨rfl,rfl⟩;go_wp2_with fail;refine(C.out _).mono ?_;rintro _ w2 ⟨rfl,i⟩;have d:=hid (And.intro i (Q1 _ _ Z.out i));clear i;go_wp2_with fail;refine(A.out _).mono ?_;rintro _ w3 ⟨rfl,h⟩;have j:=hid (And.intro (d.out.1.trans (h.mono d.out.1.size)) (Q1 _ _ d.out.2 h));clear h;go_wp2_with fail;refine(q.out _).mono ?_;rintro _ w4 ⟨rfl,k⟩;have l:=hid (And.intro (j.out.1.trans (k.mono j.out.1.size)) (Q1 _ _ j.out.2 k));clear k;go_wp2_with fail;refine(E.out _).mono ?_;rintro _ w5 ⟨rfl,rfl⟩;go_wp2_with fail;refine(R.out _).mono ?_;rintro _ w6 ⟨rfl,rfl⟩;go_wp2_with fail;refine(Y.out _ l.out.2).mono ?_;rintro _ w7 ⟨rfl,D⟩;have J:=hid (l.out.1.trans (D.mono l.out.1.size));clear D;go_wp2;go_ret2;rw[p.out];exact⟨⟨_,rfl⟩,J.out⟩
      .have p:Hid (r=false):=hid (by
        rw[n.out];simp only;split
        .rename_i e X;exact absurd ⟨e,X⟩ hat
        .rfl)
       have q:=hid (fun W G=>zz7 b (by omega) (fun u hu=>hat ⟨u,hu⟩) W G);clear P hat n z;go_enter func56,ntmps56;go_wp2_with fail;refine(o.out _).mono ?_;rintro _ B ⟨rfl,rfl⟩;go_wp2_with fail;refine(C.out _).mono ?_;rintro _ w2 ⟨rfl,i⟩;have d:=hid (And.intro i (Q1 _ _ Z.out i));clear i;go_wp2_with fail;refine(A.out _).mono ?_;rintro _ w3 ⟨rfl,h⟩;have j:=hid (And.intro (d.out.1.trans (h.mono d.out.1.size)) (Q1 _ _ d.out.2 h));clear h;go_wp2_with fail;refine(q.out _ j.out.2).mono ?_;rintro _ w4 ⟨⟨v2,te,pe,rfl⟩,k⟩;have l:=hid (j.out.1.trans (k.mono j.out.1.size));clear k;go_wp2;go_ret2;rw[p.out];exact⟨⟨_,rfl⟩,l.out⟩
     .have p:Hid (r=false):=hid (by
       rw[n.out];split
       .rename_i m P;exact absurd ⟨m,P⟩ hpu
       .rfl)
      have A:=hid (fun W G=>zz5 a (by omega) (fun u hu=>hpu ⟨u,hu⟩) W G);have q:=hid (fun W G=>zqs b (by omega) W G);clear hpu n;go_enter func56,ntmps56;go_wp2_with fail;refine(o.out _).mono ?_;rintro _ B ⟨rfl,rfl⟩;go_wp2_with fail;refine(C.out _).mono ?_;rintro _ w2 ⟨rfl,i⟩;have d:=hid (And.intro i (Q1 _ _ Z.out i));clear i;go_wp2_with fail;refine(A.out _ d.out.2).mono ?_;rintro _ w3 ⟨⟨v,te,pe,rfl⟩,h⟩;have j:=hid (And.intro (d.out.1.trans (h.mono d.out.1.size)) (Q1 _ _ d.out.2 h));clear h;go_wp2_with fail;refine(q.out _ j.out.2).mono ?_;rintro _ w4 ⟨⟨v2,ac,rfl⟩,k⟩;have l:=hid (j.out.1.trans (k.mono j.out.1.size));clear k;go_wp2;go_ret2;rw[p.out];exact⟨⟨_,rfl⟩,l.out⟩
theorem zne (s:K2) (hl:s.length<=1073741823) (w:World) (hT:UT w):Calls prog 43 #[.string ⟨s.toArray⟩] w fun e w'=>e=.returned (.bool (fltP s))/\Below w.heap.size w w':=by
 have c:=hid (znd s hl w hT);obtain⟨r,a⟩:=ex (fltP s)
 rw[a]at c ⊢;clear a hT;go_enter func43,ntmps43;go_wp2_with fail;refine c.out.mono ?_;rintro _ w1 ⟨⟨g,rfl⟩,b⟩;have d:=hid b;clear b;go_wp2;go_ret;exact⟨rfl,d.out⟩
theorem zua (text:K2) (hl:text.length<=1073741823):ScalOk UT 4 text (fltP text):=by
 intro w c;have b:=hid (zne text hl w c);obtain⟨r,a⟩:=ex (fltP text)
 rw[a]at b ⊢;clear a c;go_enter func27,ntmps27;go_wp2_with fail;refine b.out.mono ?_;rintro e w2 ⟨rfl,d⟩;have f:=hid d;clear d;go_wp2;go_ret;exact⟨rfl,f.out⟩
theorem zq0 {s:K2} {sh:Nat} {f:Nat->Nat} {p h m c:Nat} (k:ClkIs s p h m c):(clockAt s p=none/\pointO s sh f (p+8)=none)\/∃x:Gr.Ck,clockAt s p=some x/\x.h=h/\x.m=m/\x.s=c/\pointO s sh f (p+8)=finO s sh f x.nanos x.stop:=by
 cases hd:isAt s (p+8) 46 with
 |false=>exact .inr ⟨_,zqx k hd,rfl,rfl,rfl,zly hd⟩
 |true=>
  rw[zxb k hd];unfold pointO;rw[if_pos hd,show p+8+1=p+9 from rfl];by_cases hc:((s.drop (p+9)).takeWhile V2).length=0\/9<((s.drop (p+9)).takeWhile V2).length
  .rw[if_pos hc,if_pos hc];exact .inl ⟨rfl,rfl⟩
  .rw[if_neg hc,if_neg hc];exact .inr ⟨_,rfl,rfl,rfl,rfl,rfl⟩
theorem RMem.sh_ {s:K2} {w:World} {sb rb mb ab fb sh:Nat} {f:Nat->Nat} {nn z p:Nat} {wx:World} (h:RMem s w sb rb mb ab fb sh f nn z p wx) (q:Nat):RMem s w sb rb mb ab fb q f nn z p (wx.setCell ⟨mb,0,none⟩ (.int .i64 (q:Int))):=
 have c:KM mb ab wx (wx.setCell ⟨mb,0,none⟩ (.int .i64 (q:Int))):=KM.ofM (Kept1.set _ _)
 ⟨h.b.trans (c.below h.b.size h.nm h.na),h.n,h.nm,h.na,h.mr,c.blk h.s (h.s.ne_ h.m (by decide)) (h.s.ne_ h.a (by decide)),c.blk h.r h.mr.symm (h.r.ne_ h.a (by decide)),h.m.set_ 0 _,h.a.far (h.a.ne_ h.m (by decide)) _,c.blk h.f (h.f.ne_ h.m (by decide)) (h.f.ne_ h.a (by decide))⟩
structure ClockT (s:K2) (sh:Nat) (f:Nat->Nat) (p:Nat) (T:Option (Array Value)):Prop where
 no:clockAt s p=none->T=none
 yes:∀(k:Gr.Ck) (f':Nat->Nat),clockAt s p=some k->f' 3=k.h->f' 4=k.m->f' 5=k.s->(∀j,j<3\/6<=j->f' j=f j)->T=finO s (sh+2) f' k.nanos k.stop
theorem zuf (s:K2) (hl:s.length<=1073741823) (w wx:World) (sb rb mb ab fb sh:Nat) (f:Nat->Nat) (p:Nat) (T:Option (Array Value)) (HM:Hid (RMem s w sb rb mb ab fb sh f 0 0 p wx)) (hp:p<=s.length) (hsh:sh<=1) (HT:Hid (ClockT s sh f p T/\f 6=0/\f 7=0)) {u3 u8 u9 u10 u11 u12 u13 u14 u15 u16 u17 u18 u19 u20 u21 u22 u23 u24 u25 u26 u27 u28 u29 u30 u31 u32 u33 u34 u35 u36 u37 u38 u39 u40 u41 u42 u43 u44 u45 u46 u47 u48 u49 u50 u51 u52 u53 u54 u55 u56 u57 u58 u59 u60 u61 u62 u63 u64 u65 u66 u67 u68 u69 u70 u71 u72 u73 u74 u75 u76 u77 u78 u79 u80 u81 u82 u83 u84 u85 u86 u87 u88 u89 u90 u91 u92 u93 u94 u95 u96 u97 u98 u99 u100 u101 u102 u103 u104 u105 u106 u107 u108 u109 u110 u111 u112 u113 u114 u115 u116 u117 u118 u119 u120 u121 u122 u123 u124 u125 u126 u127 u128 u129 u130 u131 u132 u133 u134 u135 u136 u137 u138 u139 u140 u141 u142 u143 u144 u145 u146 u147 u148 u149 u150 u151 u152 u153 u154:Value}:
 Code.wp prog (tl 6 (f58.body.getD .skip)) (bodyPost prog f58 (RPost T w)) {tmps:=W8 (.string ⟨s.toArray⟩::.pointer (some ⟨sb,0,none⟩)::.pointer (some ⟨rb,0,none⟩)::u3::.pointer (some ⟨mb,0,none⟩)::.pointer (some ⟨ab,0,none⟩)::.pointer (some ⟨fb,0,none⟩)::.func (.func 87) #[] #[.pointer (some ⟨ab,0,none⟩),.pointer (some ⟨sb,0,none⟩),.pointer (some ⟨fb,0,none⟩)]::u8::u9::u10::u11::u12::u13::u14::u15::u16::u17::u18::u19::u20::u21::u22::u23::u24::u25::u26::u27::u28::u29::u30::u31::u32::u33::u34::u35::u36::u37::u38::u39::u40::u41::u42::u43::u44::u45::u46::u47::u48::u49::u50::u51::u52::u53::u54::u55::u56::u57::u58::u59::u60::u61::u62::u63::u64::u65::u66::u67::u68::u69::u70::u71::u72::u73::u74::u75::u76::u77::u78::u79::u80::u81::u82::u83::u84::u85::u86::u87::u88::u89::u90::u91::u92::u93::u94::u95::u96::u97::u98::u99::u100::u101::u102::u103::u104::u105::u106::u107::u108::u109::u110::u111::u112::u113::u114::u115::u116::u117::u118::u119::u120::u121::u122::u123::u124::u125::u126::u127::u128::u129::u130::u131::u132::u133::u134::u135::u136::u137::u138::u139::u140::u141::u142::u143::u144::u145::u146::u147::u148::u149::u150::u151::u152::u153::u154::[]),defers:=[]} wx:=by
 generalize hc0:tl 6 (f58.body.getD .skip)=c0;simp only[tl,f58,V6]at hc0;subst hc0;have q:=hid (zd7 s hl ab sb fb mb p 2 58 3 3 5 sh f 0 0 2 58 rfl rfl (by omega) (by omega) (by omega) (by omega) (by omega) (by omega) 4 rfl hp wx HM.out.a HM.out.s HM.out.f HM.out.m);go_upto_region 14 with fail;go_cut [48] (fun s48 y=>∃(f':Nat->Nat) (p':Nat),p'<=s.length/\Hid (RMem s w sb rb mb ab fb sh f' 0 0 p' y)/\(s48=.bool true/\Hid (T=none)\/s48=.bool false/\Hid (T=pointO s (sh+2) f' p'/\f' 6=0/\f' 7=0)))
 case first=>
  go_wp2_with fail;refine q.out.mono ?_;rintro e O ⟨C,f',i,⟨rfl,t,h,g,F⟩|⟨rfl,hno,p4,hp4,g⟩⟩
  .have l:Hid (RMem s w sb rb mb ab fb sh f' 0 0 (posAt p 2 3) O):=hid (HM.out.fld C i g);have E:Hid (T=pointO s (sh+2) f' (posAt p 2 3)/\f' 6=0/\f' 7=0):=hid (by
    have R:f' 6=0:=(h 6 (by omega)).trans HT.out.2.1;have S:f' 7=0:=(h 7 (by omega)).trans HT.out.2.2;refine⟨?_,R,S⟩;rw[show posAt p 2 3=p+8 from by simp[posAt]];rcases zq0 (sh:=sh+2) (f:=f') (zxa t)with⟨B,D⟩|⟨x,B,D,M,N,L⟩
    .rw[D];exact HT.out.1.no B
    .rw[L];exact HT.out.1.yes x f' B D.symm M.symm N.symm (fun j hj=>h j (by omega)))
   clear C i g t h;go_wp2;go_meet;exact⟨f',_,F,l,.inr ⟨rfl,E⟩⟩
  .have l:Hid (RMem s w sb rb mb ab fb sh f' 0 0 p4 O):=hid (HM.out.fld C i g);have d:Hid (T=none):=hid (HT.out.1.no (zzc hno));clear C i g hno;go_wp2;go_meet;exact⟨f',_,hp4,l,.inl ⟨rfl,d⟩⟩
 case rest=>
 obtain⟨f',p',I,c,z⟩:=hcut;obtain⟨o,u⟩:=ex wc
 rw[u]at c ⊢;clear HM HT q u;go_upto_if 48 with fail;go_cut [] (fun y=>y=o/\Hid (T=pointO s (sh+2) f' p'/\f' 6=0/\f' 7=0))
 case first=>
  rcases z with⟨rfl,d⟩|⟨rfl,k⟩
  .skip
   obtain⟨m0,m1,m2,m3,m4,m5,m6,m7,m8,m9,m10⟩:=zag c.out.m;obtain⟨x0,x1,x2,x3,x4,x5,x6,x7,x8,x9,x10⟩:=zag c.out.r;have xf:∀j,o.frozen? ⟨rb,j,none⟩=false:=c.out.r.frozen;go_wp2_with fail;have H:Blk (((((((((((o.setCell ⟨rb,0,none⟩ (.int .i64 (sh:Int))).setCell ⟨rb,1,none⟩ (.int .i64 (f' 0:Int))).setCell ⟨rb,2,none⟩ (.int .i64 (f' 1:Int))).setCell ⟨rb,3,none⟩ (.int .i64 (f' 2:Int))).setCell ⟨rb,4,none⟩ (.int .i64 (f' 3:Int))).setCell ⟨rb,5,none⟩ (.int .i64 (f' 4:Int))).setCell ⟨rb,6,none⟩ (.int .i64 (f' 5:Int))).setCell ⟨rb,7,none⟩ (.int .i64 (f' 6:Int))).setCell ⟨rb,8,none⟩ (.int .i64 (f' 7:Int))).setCell ⟨rb,9,none⟩ (.int .i64 ((0:Nat):Int))).setCell ⟨rb,10,none⟩ (.int .u8 ((0:Nat):Int))) rb 96 (mC sh f' 0 (0:Nat)):=zbe c.out.r;obtain⟨e0,B,D,M,N,L,e6,e7,e8,e9,e10⟩:=zag H;have J:Below w.heap.size w (((((((((((o.setCell ⟨rb,0,none⟩ (.int .i64 (sh:Int))).setCell ⟨rb,1,none⟩ (.int .i64 (f' 0:Int))).setCell ⟨rb,2,none⟩ (.int .i64 (f' 1:Int))).setCell ⟨rb,3,none⟩ (.int .i64 (f' 2:Int))).setCell ⟨rb,4,none⟩ (.int .i64 (f' 3:Int))).setCell ⟨rb,5,none⟩ (.int .i64 (f' 4:Int))).setCell ⟨rb,6,none⟩ (.int .i64 (f' 5:Int))).setCell ⟨rb,7,none⟩ (.int .i64 (f' 6:Int))).setCell ⟨rb,8,none⟩ (.int .i64 (f' 7:Int))).setCell ⟨rb,9,none⟩ (.int .i64 ((0:Nat):Int))).setCell ⟨rb,10,none⟩ (.int .u8 ((0:Nat):Int))):=zcq c.out.b c.out.n;refine J1 (v:=.tuple #[.agg #[.int .i64 (sh:Int),.int .i64 (f' 0:Int),.int .i64 (f' 1:Int),.int .i64 (f' 2:Int),.int .i64 (f' 3:Int),.int .i64 (f' 4:Int),.int .i64 (f' 5:Int),.int .i64 (f' 6:Int),.int .i64 (f' 7:Int),.int .i64 ((0:Nat):Int),.int .u8 ((0:Nat):Int)],.bool false]) (by rw[J2 rfl];go_simp) rfl ?_;have G:T=none:=d.out;unfold RPost;rw[G];exact⟨J,sh,f',0,(0:Nat),rfl,fun x Q=>by cases Q⟩
  .go_wp2;go_meet;exact⟨rfl,k⟩
 case rest=>
 obtain⟨A,k⟩:=hcut;rw[A];clear z A;refine(‹∀(a:Act) (w_1:World),Code.wp prog _ _ a w_1->_›) _ _ ?_;have qM0:o.cell? ⟨mb,0,none⟩=some (.int .i64 (sh:Int)):=c.out.m.cell 0;have qMF:∀j,o.frozen? ⟨mb,j,none⟩=false:=c.out.m.frozen;go_upto_region 16 with fail;have K:Hid (∀v:Value,v=.int .i64 ((sh:Int)+2)->RMem s w sb rb mb ab fb (sh+2) f' 0 0 p' (World.setCell o ⟨mb,0,none⟩ v)):=hid (fun v P=>by
  rw[P,show(sh:Int)+2=((sh+2:Nat):Int)from by omega];exact c.out.sh_ _)
 go_cut [] (fun y=>Hid (RMem s w sb rb mb ab fb (sh+2) f' 0 0 p' y))
 case first=>
  go_wp2;go_meet;exact hid (K.out _ rfl)
 case rest=>
 refine(‹∀(a:Act) (w_1:World),Code.wp prog _ _ a w_1->_›) _ _ ?_;exact zue s hl w _ sb rb mb ab fb (sh+2) f' p' T hcut I (by omega) k
def moF (x:U7):Nat->Nat:=fun j=>match j with
 | 0=>x.y
 | 1=>x.m
 | 2=>x.d
 | 3=>x.h
 | 4=>x.mi
 | 5=>x.c
 | 6=>x.zh
 |_=>x.zm
def moSh (x:U7):Nat:=(if x.date=true then 1 else 0)+(if x.time=true then 2 else 0)
def moC (x:U7):Array Value:=mC (moSh x) (moF x) x.nanos x.z.toNat
def rdT (s:K2):Option (Array Value):=(Y8 s).map moC
theorem zhu {sh nn z:Nat} {f g:Nat->Nat} (h:∀j,j<8->f j=g j):mC sh f nn z=mC sh g nn z:=by
 simp[mC,h 0 (by omega),h 1 (by omega),h 2 (by omega),h 3 (by omega),h 4 (by omega),h 5 (by omega),h 6 (by omega),h 7 (by omega)]
theorem lt8 {P:Nat->Prop} (h:P 0/\P 1/\P 2/\P 3/\P 4/\P 5/\P 6/\P 7):∀j,j<8->P j:=by
 grind
theorem zji {s:K2} (h:∀h2:2<s.length,(s[2]'h2).toNat=58):dateAt s=none:=by
 unfold dateAt;have:numAt s 0 4=none:=by
  rcases V9 s.length 4 with hl|hl
  .exact zdd s 0 4 (by omega)
  .exact zdr s 0 4 2 (by omega) (by omega) (by rw[(zd6 _ 58 (h (by omega))).1];decide)
 rw[this]
theorem zhv {s:K2} (hl:2<s.length) (h:(s[2]'hl).toNat≠58):clockAt s 0=none:=by
 unfold clockAt;split
 .rw[if_neg];rw[zby (p:=0+2) hl rfl];simp;intro e;exact absurd e h
 .rfl
theorem zxe {s:K2} (hd:dateAt s=none):ClockT s 0 (fun _=>0) 0 (rdT s) where
 no h:=by unfold rdT Y8;rw[hd];simp only;rw[h];rfl
 yes k f' h h3 h4 h5 hf:=by
  unfold rdT Y8 finO;rw[hd];simp only;rw[h];simp only;by_cases hs:k.stop=s.length
  .rw[if_pos hs,if_pos hs];show some _=some _
   congr 1
   exact zhu (lt8 ⟨(hf 0 (by omega)).symm,(hf 1 (by omega)).symm,(hf 2 (by omega)).symm,h3.symm,h4.symm,h5.symm,(hf 6 (by omega)).symm,(hf 7 (by omega)).symm⟩)
  .grind
theorem zxf {s:K2} {g:Nat->Nat} (hd:dateAt s=some (g 0,g 1,g 2)) (h10:s.length≠10) (hsep:(isAt s 10 84 || isAt s 10 32)=true) (h6:g 6=0) (h7:g 7=0):ClockT s 1 g 11 (rdT s) where
 no h:=by unfold rdT Y8;rw[hd];simp only;rw[if_neg h10,if_pos hsep,h];rfl
 yes k f' h h3 h4 h5 hf:=by
  unfold rdT Y8 finO;rw[hd];simp only;rw[if_neg h10,if_pos hsep,h];simp only;have hle:=zl0 (kh:=k.h) (km:=k.m) (kc:=k.s) (kf:=k.nanos) (ks:=k.stop) h;by_cases hs:k.stop=s.length
  .rw[if_pos hs,if_pos hs];show some _=some _
   congr 1
   exact zhu (lt8 ⟨(hf 0 (by omega)).symm,(hf 1 (by omega)).symm,(hf 2 (by omega)).symm,h3.symm,h4.symm,h5.symm,((hf 6 (by omega)).trans h6).symm,((hf 7 (by omega)).trans h7).symm⟩)
  .rw[if_neg hs,if_neg hs,if_pos ⟨by trivial,by omega⟩];cases hz:zoneAt s k.stop with
   |none=>rfl
   |some z=>
    simp only;by_cases hzs:z.stop=s.length
    .rw[if_pos hzs,if_pos hzs];show some _=some _
     congr 1
     exact zhu (lt8 ⟨(hf 0 (by omega)).symm,(hf 1 (by omega)).symm,(hf 2 (by omega)).symm,h3.symm,h4.symm,h5.symm,rfl,rfl⟩)
    .rw[if_neg hzs,if_neg hzs];rfl
theorem zxg (s:K2) (hl:s.length<=1073741823) (w wx:World) (sb rb mb ab fb:Nat) (T:Option (Array Value)) (HM:Hid (RMem s w sb rb mb ab fb 0 (fun _=>0) 0 0 0 wx)) (HT:Hid (T=rdT s)) {u3 u8 u9 u10 u11 u12 u13 u14 u15 u16 u17 u18 u19 u20 u21 u22 u23 u24 u25 u26 u27 u28 u29 u30 u31 u32 u33 u34 u35 u36 u37 u38 u39 u40 u41 u42 u43 u44 u45 u46 u47 u48 u49 u50 u51 u52 u53 u54 u55 u56 u57 u58 u59 u60 u61 u62 u63 u64 u65 u66 u67 u68 u69 u70 u71 u72 u73 u74 u75 u76 u77 u78 u79 u80 u81 u82 u83 u84 u85 u86 u87 u88 u89 u90 u91 u92 u93 u94 u95 u96 u97 u98 u99 u100 u101 u102 u103 u104 u105 u106 u107 u108 u109 u110 u111 u112 u113 u114 u115 u116 u117 u118 u119 u120 u121 u122 u123 u124 u125 u126 u127 u128 u129 u130 u131 u132 u133 u134 u135 u136 u137 u138 u139 u140 u141 u142 u143 u144 u145 u146 u147 u148 u149 u150 u151 u152 u153 u154:Value}:
 Code.wp prog (tl 5 (f58.body.getD .skip)) (bodyPost prog f58 (RPost T w)) {tmps:=W8 (.string ⟨s.toArray⟩::.pointer (some ⟨sb,0,none⟩)::.pointer (some ⟨rb,0,none⟩)::u3::.pointer (some ⟨mb,0,none⟩)::.pointer (some ⟨ab,0,none⟩)::.pointer (some ⟨fb,0,none⟩)::.func (.func 87) #[] #[.pointer (some ⟨ab,0,none⟩),.pointer (some ⟨sb,0,none⟩),.pointer (some ⟨fb,0,none⟩)]::u8::u9::u10::u11::u12::u13::u14::u15::u16::u17::u18::u19::u20::u21::u22::u23::u24::u25::u26::u27::u28::u29::u30::u31::u32::u33::u34::u35::u36::u37::u38::u39::u40::u41::u42::u43::u44::u45::u46::u47::u48::u49::u50::u51::u52::u53::u54::u55::u56::u57::u58::u59::u60::u61::u62::u63::u64::u65::u66::u67::u68::u69::u70::u71::u72::u73::u74::u75::u76::u77::u78::u79::u80::u81::u82::u83::u84::u85::u86::u87::u88::u89::u90::u91::u92::u93::u94::u95::u96::u97::u98::u99::u100::u101::u102::u103::u104::u105::u106::u107::u108::u109::u110::u111::u112::u113::u114::u115::u116::u117::u118::u119::u120::u121::u122::u123::u124::u125::u126::u127::u128::u129::u130::u131::u132::u133::u134::u135::u136::u137::u138::u139::u140::u141::u142::u143::u144::u145::u146::u147::u148::u149::u150::u151::u152::u153::u154::[]),defers:=[]} wx:=by
 generalize hc0:tl 5 (f58.body.getD .skip)=c0;simp only[tl,f58,V6]at hc0;subst hc0;have L:=hid (zd7 s hl ab sb fb mb 0 4 45 0 3 8 0 (fun _=>0) 0 0 4 45 rfl rfl (by omega) (by omega) (by omega) (by omega) (by omega) (by omega) 1 rfl (Q7 _) wx HM.out.a HM.out.s HM.out.f HM.out.m);have qS:wx.cell? ⟨sb,0,none⟩=some (.string ⟨s.toArray⟩):=HM.out.s.cell 0;obtain⟨J,V⟩:∃J,decide (∃h:2<s.length,(s[2]'h).toNat≠58)=J:=⟨_,rfl⟩
 have t:=hid V;clear V;go_upto_region 5 with fail;go_cut [18] (fun s18 wy=>s18=.bool J/\wy=wx)
 case first=>
  by_cases hlt:2<s.length
  .have E:(2:Int)<(s.length:Int):=by omega
   obtain⟨b,B⟩:∃b:Nat,(s[2]'hlt).toNat=b:=⟨_,rfl⟩
   have ah:(((⟨s.toArray⟩:ByteArray)[2]'(by simpa[ByteArray.size]using hlt)).toNat:Int)=(b:Int):=by rw[<-B];rfl
   by_cases h58:b=58
   .have g:(b:Int)=58:=by omega
    have P:((b:Int)==58)=true:=by simpa using g
    obtain rfl:J=false:=by rw[<-t.out];exact qqx (fun⟨_,e⟩=>e (B.trans h58))
    clear B h58;go_wp2;go_meet;exact⟨rfl,rfl⟩
   .have g:¬(b:Int)=58:=by omega
    have P:((b:Int)==58)=false:=by simpa using g
    obtain rfl:J=true:=by rw[<-t.out];exact qqk ⟨hlt,fun e=>h58 (B.symm.trans e)⟩
    clear B h58;go_wp2;go_meet;exact⟨by first|rfl|simp[g],rfl⟩
  .have E:¬(2:Int)<(s.length:Int):=by omega
   obtain rfl:J=false:=by rw[<-t.out];exact qqx (fun⟨h,_⟩=>hlt h)
   go_wp2;go_meet;exact⟨rfl,rfl⟩
 case rest=>
 obtain⟨rfl,Y⟩:=hcut;rw[Y];clear Y qS;go_upto_if 18 with fail;go_cut [] (fun wy=>∃(f':Nat->Nat) (p' sh':Nat),p'<=s.length/\sh'<=1/\Hid (RMem s w sb rb mb ab fb sh' f' 0 0 p' wy)/\Hid (ClockT s sh' f' p' T/\f' 6=0/\f' 7=0))
 case first=>
  cases J with
  |false=>
   have z:Hid (ClockT s 0 (fun _=>0) 0 T):=hid (by
    rw[HT.out];refine zxe (zji (fun h2=>?_));have h:=qqz t.out;by_cases e:(s[2]'h2).toNat=58
    .exact e
    .exact absurd ⟨h2,e⟩ h)
   go_wp2;go_meet;exact⟨fun _=>0,0,0,Q7 _,by omega,HM,hid ⟨z.out,rfl,rfl⟩⟩
  |true=>
   have ad:Hid (Gr.clockAt s 0=none):=hid (by
    obtain⟨h1,h2⟩:=qqy t.out;exact zhv h1 h2)
   go_wp2_with fail;refine L.out.mono ?_;rintro e D ⟨hk,f',A,⟨rfl,N,R,p,O⟩|⟨rfl,hno,p4,hp4,p⟩⟩
   .have d:Hid (RMem s w sb rb mb ab fb 0 f' 0 0 10 D):=hid (HM.out.fld hk A (by simpa[posAt]using p));have G:10<=s.length:=by simpa[posAt]using O
    have i:Hid (Gr.dateAt s=some (f' 0,f' 1,f' 2)/\(∀j,3<=j->f' j=0)):=hid ⟨zuc N,fun j hj=>R j (.inr (by omega))⟩;clear hk A p N R O;have ac:D.cell? ⟨mb,0,none⟩=some (.int .i64 ((0:Nat):Int)):=d.out.m.cell 0;have af:∀j,D.frozen? ⟨mb,j,none⟩=false:=d.out.m.frozen;go_upto_region 9 with fail;obtain⟨y,H⟩:=ex (D.setCell ⟨mb,0,none⟩ (.int .i64 1))
    have c:Hid (RMem s w sb rb mb ab fb 1 f' 0 0 10 y):=hid (by rw[<-H];exact d.out.sh_ 1);(try rw[H]);clear ac af H HM L;have qA:y.cell? ⟨ab,0,none⟩=some (.int .i64 ((10:Nat):Int)):=c.out.a.cell 0;have qAF:∀j,y.frozen? ⟨ab,j,none⟩=false:=c.out.a.frozen;have qS:y.cell? ⟨sb,0,none⟩=some (.string ⟨s.toArray⟩):=c.out.s.cell 0;by_cases h10:s.length=10
    .have C:((10:Int)==(s.length:Int))=true:=by rw[h10];rfl
     have ai:Hid (T=some (mC 1 f' 0 (0:Nat))):=hid (by
      rw[HT.out];unfold rdT Y8;rw[i.out.1];simp only;rw[if_pos h10];show some _=some _
      congr 1
      exact zhu (lt8 ⟨rfl,rfl,rfl,(i.out.2 3 (by omega)).symm,(i.out.2 4 (by omega)).symm,(i.out.2 5 (by omega)).symm,(i.out.2 6 (by omega)).symm,(i.out.2 7 (by omega)).symm⟩))
     clear h10;obtain⟨m0,m1,m2,m3,m4,m5,m6,m7,m8,m9,Z⟩:=zag c.out.m;obtain⟨x0,x1,x2,x3,x4,x5,x6,x7,x8,x9,Q⟩:=zag c.out.r;have xf:∀j,y.frozen? ⟨rb,j,none⟩=false:=c.out.r.frozen;go_wp2_with fail;clear C G;have q:Blk (((((((((((y.setCell ⟨rb,0,none⟩ (.int .i64 1)).setCell ⟨rb,1,none⟩ (.int .i64 (f' 0:Int))).setCell ⟨rb,2,none⟩ (.int .i64 (f' 1:Int))).setCell ⟨rb,3,none⟩ (.int .i64 (f' 2:Int))).setCell ⟨rb,4,none⟩ (.int .i64 (f' 3:Int))).setCell ⟨rb,5,none⟩ (.int .i64 (f' 4:Int))).setCell ⟨rb,6,none⟩ (.int .i64 (f' 5:Int))).setCell ⟨rb,7,none⟩ (.int .i64 (f' 6:Int))).setCell ⟨rb,8,none⟩ (.int .i64 (f' 7:Int))).setCell ⟨rb,9,none⟩ (.int .i64 0)).setCell ⟨rb,10,none⟩ (.int .u8 0)) rb 96 (mC 1 f' 0 (0:Nat)):=zbe c.out.r;obtain⟨e0,e1,e2,e3,e4,e5,e6,e7,e8,e9,W⟩:=zag q;have u:Below w.heap.size w (((((((((((y.setCell ⟨rb,0,none⟩ (.int .i64 1)).setCell ⟨rb,1,none⟩ (.int .i64 (f' 0:Int))).setCell ⟨rb,2,none⟩ (.int .i64 (f' 1:Int))).setCell ⟨rb,3,none⟩ (.int .i64 (f' 2:Int))).setCell ⟨rb,4,none⟩ (.int .i64 (f' 3:Int))).setCell ⟨rb,5,none⟩ (.int .i64 (f' 4:Int))).setCell ⟨rb,6,none⟩ (.int .i64 (f' 5:Int))).setCell ⟨rb,7,none⟩ (.int .i64 (f' 6:Int))).setCell ⟨rb,8,none⟩ (.int .i64 (f' 7:Int))).setCell ⟨rb,9,none⟩ (.int .i64 0)).setCell ⟨rb,10,none⟩ (.int .u8 0)):=zcq c.out.b c.out.n;refine J1 (v:=.tuple #[.agg #[.int .i64 1,.int .i64 (f' 0:Int),.int .i64 (f' 1:Int),.int .i64 (f' 2:Int),.int .i64 (f' 3:Int),.int .i64 (f' 4:Int),.int .i64 (f' 5:Int),.int .i64 (f' 6:Int),.int .i64 (f' 7:Int),.int .i64 0,.int .u8 0],.bool true]) (by rw[J2 rfl];go_simp) rfl ?_;have o:=ai.out;unfold RPost;rw[o];exact⟨u,1,f',0,(0:Nat),rfl,fun x U=>(Option.some.inj U).symm⟩
    .have C:((10:Int)==(s.length:Int))=false:=by
      rw[Bool.eq_false_iff];intro e;have:=eq_of_beq e;omega
     have X:=hid h10;have hlt:10<s.length:=by omega
     have E:(10:Int)<(s.length:Int):=by omega
     clear h10;obtain⟨b,B⟩:∃b:Nat,(s[10]'hlt).toNat=b:=⟨_,rfl⟩
     have ah:(((⟨s.toArray⟩:ByteArray)[10]'(by simpa[ByteArray.size]using hlt)).toNat:Int)=(b:Int):=by rw[<-B];rfl
     have HB:=hid B;clear B;by_cases hsp:b=84\/b=32
     .have z:Hid (ClockT s 1 f' 11 T/\f' 6=0/\f' 7=0):=hid (by
       rw[HT.out];refine⟨zxf i.out.1 X.out ?_ (i.out.2 6 (by omega)) (i.out.2 7 (by omega)),i.out.2 6 (by omega),i.out.2 7 (by omega)⟩;rw[zby hlt HB.out,zby hlt HB.out];rcases hsp with rfl|rfl<;>rfl)
      have M:=hid (c.out.at_ 11);by_cases h84:b=84
      .have k:(b:Int)=84:=by omega
       have F:((b:Int)==84)=true:=by simpa using k
       clear hsp h84;go_wp2;go_meet;exact⟨f',11,1,by omega,by omega,M,z⟩
      .have ag:b=32:=by omega
       have k:¬(b:Int)=84:=by omega
       have F:((b:Int)==84)=false:=by simpa using k
       have I:(b:Int)=32:=by omega
       have S:((b:Int)==32)=true:=by simpa using I
       clear hsp h84 ag;go_wp2;go_meet;exact⟨f',11,1,by omega,by omega,M,z⟩
     .have k:¬(b:Int)=84:=by omega
      have F:((b:Int)==84)=false:=by simpa using k
      have I:¬(b:Int)=32:=by omega
      have S:((b:Int)==32)=false:=by simpa using I
      have n84:((b:Int) != 84)=true:=by rw[bne,F];rfl
      have n32:((b:Int) != 32)=true:=by rw[bne,S];rfl
      have l:Hid (T=none):=hid (by
       rw[HT.out];unfold rdT Y8;rw[i.out.1];simp only;rw[if_neg X.out,if_neg]
       .rfl
       .rw[zby hlt HB.out,zby hlt HB.out];simp;omega)
      clear hsp;obtain⟨m0,m1,m2,m3,m4,m5,m6,m7,m8,m9,Z⟩:=zag c.out.m;obtain⟨x0,x1,x2,x3,x4,x5,x6,x7,x8,x9,Q⟩:=zag c.out.r;have xf:∀j,y.frozen? ⟨rb,j,none⟩=false:=c.out.r.frozen;go_wp2_with fail;have q:Blk (((((((((((y.setCell ⟨rb,0,none⟩ (.int .i64 1)).setCell ⟨rb,1,none⟩ (.int .i64 (f' 0:Int))).setCell ⟨rb,2,none⟩ (.int .i64 (f' 1:Int))).setCell ⟨rb,3,none⟩ (.int .i64 (f' 2:Int))).setCell ⟨rb,4,none⟩ (.int .i64 (f' 3:Int))).setCell ⟨rb,5,none⟩ (.int .i64 (f' 4:Int))).setCell ⟨rb,6,none⟩ (.int .i64 (f' 5:Int))).setCell ⟨rb,7,none⟩ (.int .i64 (f' 6:Int))).setCell ⟨rb,8,none⟩ (.int .i64 (f' 7:Int))).setCell ⟨rb,9,none⟩ (.int .i64 0)).setCell ⟨rb,10,none⟩ (.int .u8 0)) rb 96 (mC 1 f' 0 (0:Nat)):=zbe c.out.r;obtain⟨e0,e1,e2,e3,e4,e5,e6,e7,e8,e9,W⟩:=zag q;have u:Below w.heap.size w (((((((((((y.setCell ⟨rb,0,none⟩ (.int .i64 1)).setCell ⟨rb,1,none⟩ (.int .i64 (f' 0:Int))).setCell ⟨rb,2,none⟩ (.int .i64 (f' 1:Int))).setCell ⟨rb,3,none⟩ (.int .i64 (f' 2:Int))).setCell ⟨rb,4,none⟩ (.int .i64 (f' 3:Int))).setCell ⟨rb,5,none⟩ (.int .i64 (f' 4:Int))).setCell ⟨rb,6,none⟩ (.int .i64 (f' 5:Int))).setCell ⟨rb,7,none⟩ (.int .i64 (f' 6:Int))).setCell ⟨rb,8,none⟩ (.int .i64 (f' 7:Int))).setCell ⟨rb,9,none⟩ (.int .i64 0)).setCell ⟨rb,10,none⟩ (.int .u8 0)):=zcq c.out.b c.out.n;refine J1 (v:=.tuple #[.agg #[.int .i64 1,.int .i64 (f' 0:Int),.int .i64 (f' 1:Int),.int .i64 (f' 2:Int),.int .i64 (f' 3:Int),.int .i64 (f' 4:Int),.int .i64 (f' 5:Int),.int .i64 (f' 6:Int),.int .i64 (f' 7:Int),.int .i64 0,.int .u8 0],.bool false]) (by rw[J2 rfl];go_simp) rfl ?_;have o:T=none:=l.out;unfold RPost;rw[o];exact⟨u,1,f',0,(0:Nat),rfl,fun x U=>by cases U⟩
   .have d:Hid (RMem s w sb rb mb ab fb 0 f' 0 0 p4 D):=hid (HM.out.fld hk A p);have l:Hid (T=none):=hid (by
     rw[HT.out];unfold rdT Y8;rw[znf hno];simp only;rw[ad.out];rfl)
    clear hk A p hno;obtain⟨m0,m1,m2,m3,m4,m5,m6,m7,m8,m9,Z⟩:=zag d.out.m;obtain⟨x0,x1,x2,x3,x4,x5,x6,x7,x8,x9,Q⟩:=zag d.out.r;have xf:∀j,D.frozen? ⟨rb,j,none⟩=false:=d.out.r.frozen;go_wp2_with fail;have q:Blk (((((((((((D.setCell ⟨rb,0,none⟩ (.int .i64 ((0:Nat):Int))).setCell ⟨rb,1,none⟩ (.int .i64 (f' 0:Int))).setCell ⟨rb,2,none⟩ (.int .i64 (f' 1:Int))).setCell ⟨rb,3,none⟩ (.int .i64 (f' 2:Int))).setCell ⟨rb,4,none⟩ (.int .i64 (f' 3:Int))).setCell ⟨rb,5,none⟩ (.int .i64 (f' 4:Int))).setCell ⟨rb,6,none⟩ (.int .i64 (f' 5:Int))).setCell ⟨rb,7,none⟩ (.int .i64 (f' 6:Int))).setCell ⟨rb,8,none⟩ (.int .i64 (f' 7:Int))).setCell ⟨rb,9,none⟩ (.int .i64 ((0:Nat):Int))).setCell ⟨rb,10,none⟩ (.int .u8 ((0:Nat):Int))) rb 96 (mC 0 f' 0 (0:Nat)):=zbe d.out.r;obtain⟨e0,e1,e2,e3,e4,e5,e6,e7,e8,e9,W⟩:=zag q;have u:Below w.heap.size w (((((((((((D.setCell ⟨rb,0,none⟩ (.int .i64 ((0:Nat):Int))).setCell ⟨rb,1,none⟩ (.int .i64 (f' 0:Int))).setCell ⟨rb,2,none⟩ (.int .i64 (f' 1:Int))).setCell ⟨rb,3,none⟩ (.int .i64 (f' 2:Int))).setCell ⟨rb,4,none⟩ (.int .i64 (f' 3:Int))).setCell ⟨rb,5,none⟩ (.int .i64 (f' 4:Int))).setCell ⟨rb,6,none⟩ (.int .i64 (f' 5:Int))).setCell ⟨rb,7,none⟩ (.int .i64 (f' 6:Int))).setCell ⟨rb,8,none⟩ (.int .i64 (f' 7:Int))).setCell ⟨rb,9,none⟩ (.int .i64 ((0:Nat):Int))).setCell ⟨rb,10,none⟩ (.int .u8 ((0:Nat):Int))):=zcq d.out.b d.out.n;refine J1 (v:=.tuple #[.agg #[.int .i64 ((0:Nat):Int),.int .i64 (f' 0:Int),.int .i64 (f' 1:Int),.int .i64 (f' 2:Int),.int .i64 (f' 3:Int),.int .i64 (f' 4:Int),.int .i64 (f' 5:Int),.int .i64 (f' 6:Int),.int .i64 (f' 7:Int),.int .i64 ((0:Nat):Int),.int .u8 ((0:Nat):Int)],.bool false]) (by rw[J2 rfl];go_simp) rfl ?_;have o:T=none:=l.out;unfold RPost;rw[o];exact⟨u,0,f',0,(0:Nat),rfl,fun x U=>by cases U⟩
 case rest=>
 obtain⟨f',p',sh',ae,K,aj,aa⟩:=hcut;refine(‹∀(a:Act) (w_1:World),Code.wp prog _ _ a w_1->_›) _ _ ?_;exact zuf s hl w _ sb rb mb ab fb sh' f' p' T aj ae K aa
theorem zjj {w:World} {g:Nat} {t:TypeId} {cs:Array Value} (h:w.heap.size=g):Blk (w.alloc (.cells cs t)) g t cs:=by subst h;exact Q4 _ _ _
theorem zl1 (s:K2) (hl:s.length<=1073741823) (w:World):Calls prog 58 #[.string ⟨s.toArray⟩] w (RPost (rdT s) w):=by
 go_enter func58,ntmps58;go_upto_region 4 with fail;obtain⟨c,b⟩:=ex (((((w.alloc (.cells #[.string ⟨s.toArray⟩] 9)).alloc (.cells #[.int .i64 0,.int .i64 0,.int .i64 0,.int .i64 0,.int .i64 0,.int .i64 0,.int .i64 0,.int .i64 0,.int .i64 0,.int .i64 0,.int .u8 0] 96)).alloc (.cells #[.int .i64 0,.int .i64 0,.int .i64 0,.int .i64 0,.int .i64 0,.int .i64 0,.int .i64 0,.int .i64 0,.int .i64 0,.int .i64 0,.int .u8 0] 96)).alloc (.cells #[.int .i64 0] 3)).alloc (.cells #[.func (.func 86) #[] #[.pointer (some ⟨w.heap.size+1+1+1,0,none⟩),.pointer (some ⟨w.heap.size,0,none⟩)]] 126))
 have h:Blk c (w.heap.size) 9 #[.string ⟨s.toArray⟩]:=by rw[<-b];exact((((zjj (by simp)).alloc _).alloc _).alloc _).alloc _
 have f:Blk c (w.heap.size+1) 96 #[.int .i64 0,.int .i64 0,.int .i64 0,.int .i64 0,.int .i64 0,.int .i64 0,.int .i64 0,.int .i64 0,.int .i64 0,.int .i64 0,.int .u8 0]:=by rw[<-b];exact(((zjj (by simp)).alloc _).alloc _).alloc _
 have d:Blk c (w.heap.size+1+1) 96 #[.int .i64 0,.int .i64 0,.int .i64 0,.int .i64 0,.int .i64 0,.int .i64 0,.int .i64 0,.int .i64 0,.int .i64 0,.int .i64 0,.int .u8 0]:=by rw[<-b];exact((zjj (by simp)).alloc _).alloc _
 have e:Blk c (w.heap.size+1+1+1) 3 #[.int .i64 0]:=by rw[<-b];exact(zjj (by simp)).alloc _
 have i:Blk c (w.heap.size+1+1+1+1) 126 #[.func (.func 86) #[] #[.pointer (some ⟨w.heap.size+1+1+1,0,none⟩),.pointer (some ⟨w.heap.size,0,none⟩)]]:=by rw[<-b];exact zjj (by simp)
 have g:Below w.heap.size w c:=by rw[<-b];exact(((((K1 _ _).alloc (K4 _) _).alloc (by simp) _).alloc (by simp;omega) _).alloc (by simp;omega) _).alloc (by simp;omega) _
 have k:Hid (RMem s w (w.heap.size) (w.heap.size+1) (w.heap.size+1+1) (w.heap.size+1+1+1) (w.heap.size+1+1+1+1) 0 (fun _=>0) 0 0 0 c):=X6 ⟨g,by omega,by omega,by omega,by omega,h,f,d,e,i⟩;(try rw[b]);clear b h f d e i g;go_cut [7] (fun s7 j=>s7=.func (.func 87) #[] #[.pointer (some ⟨w.heap.size+1+1+1,0,none⟩),.pointer (some ⟨w.heap.size,0,none⟩),.pointer (some ⟨w.heap.size+1+1+1+1,0,none⟩)]/\j=c)
 case first=>
  go_wp2;go_meet;exact⟨rfl,rfl⟩
 case rest=>
 obtain⟨rfl,rfl⟩:=hcut;refine(‹∀(a:Act) (w_1:World),Code.wp prog _ _ a w_1->_›) _ _ ?_;exact zxg s hl w _ _ _ _ _ _ (rdT s) k (X6 rfl)
theorem zjk (sh y m d h mi c zh zm nanos z:Int) (hv:Cal.vld y m d=true) (h0:0<=h) (h1:h<=1000) (h2:0<=mi) (h3:mi<=1000) (h4:0<=c) (h5:c<=1000) (h6:0<=zh) (h7:zh<=1000) (h8:0<=zm) (h9:zm<=1000) (w:World):
 Calls prog 61 #[.agg #[.int .i64 sh,.int .i64 y,.int .i64 m,.int .i64 d,.int .i64 h,.int .i64 mi,.int .i64 c,.int .i64 zh,.int .i64 zm,.int .i64 nanos,.int .u8 z]] w fun e w'=>e=.returned (.int .i64 (if z=43 then Cal.num y m d*86400+h*3600+mi*60+c-(zh*3600+zm*60)else Cal.num y m d*86400+h*3600+mi*60+c+(zh*3600+zm*60)))/\Below w.heap.size w w':=by
 have u:=hid (fun W=>zl2 y m d hv W);have v:=Cal.z0h hv;obtain⟨q,t⟩:=ex (Cal.num y m d)
 rw[t]at u v ⊢;obtain⟨hb0,hb1⟩:=v;clear t hv;obtain⟨r,o⟩:=ex (if z=43 then q*86400+h*3600+mi*60+c-(zh*3600+zm*60)else q*86400+h*3600+mi*60+c+(zh*3600+zm*60))
 have x:=hid o;rw[o];clear o;go_enter func61,ntmps61;go_upto_region 1 with fail;obtain⟨f,g⟩:=ex w.heap.size
 obtain⟨j,l⟩:∃j,j=w.alloc (.cells #[.int .i64 sh,.int .i64 y,.int .i64 m,.int .i64 d,.int .i64 h,.int .i64 mi,.int .i64 c,.int .i64 zh,.int .i64 zm,.int .i64 nanos,.int .u8 z] 96):=⟨_,rfl⟩
 have b:Hid (Blk j f 96 #[.int .i64 sh,.int .i64 y,.int .i64 m,.int .i64 d,.int .i64 h,.int .i64 mi,.int .i64 c,.int .i64 zh,.int .i64 zm,.int .i64 nanos,.int .u8 z]/\Below f w j):=hid (by rw[l,<-g];exact⟨Q4 _ _ _,(K1 _ _).alloc (K4 _) _⟩);have n:=hid g;(try rw[<-l]);(try rw[g]);clear l g;have B:j.cell? ⟨f,1,none⟩=some (.int .i64 y):=b.out.1.cell 1;have C:j.cell? ⟨f,2,none⟩=some (.int .i64 m):=b.out.1.cell 2;have A:j.cell? ⟨f,3,none⟩=some (.int .i64 d):=b.out.1.cell 3;go_wp2_with fail;refine(u.out _).mono ?_;rintro e i ⟨rfl,k⟩;have a:Hid (Blk i f 96 #[.int .i64 sh,.int .i64 y,.int .i64 m,.int .i64 d,.int .i64 h,.int .i64 mi,.int .i64 c,.int .i64 zh,.int .i64 zm,.int .i64 nanos,.int .u8 z]/\Below f w i):=hid ⟨b.out.1.below k b.out.1.lt,b.out.2.trans (k.mono (Q6 b.out.1.lt))⟩;clear k B C A;have q4:i.cell? ⟨f,4,none⟩=some (.int .i64 h):=a.out.1.cell 4;have q5:i.cell? ⟨f,5,none⟩=some (.int .i64 mi):=a.out.1.cell 5;have q6:i.cell? ⟨f,6,none⟩=some (.int .i64 c):=a.out.1.cell 6;have q7:i.cell? ⟨f,7,none⟩=some (.int .i64 zh):=a.out.1.cell 7;have q8:i.cell? ⟨f,8,none⟩=some (.int .i64 zm):=a.out.1.cell 8;have q10:i.cell? ⟨f,10,none⟩=some (.int .u8 z):=a.out.1.cell 10;by_cases hz:z=43
 .have p:(z==43)=true:=by simpa using hz
  have s:Hid (r=q*86400+h*3600+mi*60+c-(zh*3600+zm*60)):=hid (by rw[<-x.out,if_pos hz]);clear hz;go_wp2;go_ret;rw[s.out,n.out];exact⟨rfl,a.out.2⟩
 .have p:(z==43)=false:=by simpa using hz
  have s:Hid (r=q*86400+h*3600+mi*60+c+(zh*3600+zm*60)):=hid (by rw[<-x.out,if_neg hz]);go_wp2;go_ret;rw[s.out,n.out];exact⟨rfl,a.out.2⟩
def prngB (sh:Int) (y m d h mi c zh zm:Nat):Bool:=(decide (sh=2) || Cal.vld y m d) && decide (h<=23) && decide (mi<=59) && decide (c<=59) && decide (zh<=23) && decide (zm<=59)
theorem zfr (sh:Int) (y m d h mi c zh zm:Nat) (nanos z:Int) (w:World):
 Calls prog 59 #[.agg #[.int .i64 sh,.int .i64 (y:Int),.int .i64 (m:Int),.int .i64 (d:Int),.int .i64 (h:Int),.int .i64 (mi:Int),.int .i64 (c:Int),.int .i64 (zh:Int),.int .i64 (zm:Int),.int .i64 nanos,.int .u8 z]] w fun e w'=>e=.returned (.bool (prngB sh y m d h mi c zh zm))/\Below w.heap.size w w':=by
 have V:=hid (fun q W=>zl2 (y:Int) (m:Int) (d:Int) q W);have X:=hid (fun q W=>zxh (y:Int) (m:Int) (d:Int) q W);obtain⟨r,P⟩:=ex (prngB sh y m d h mi c zh zm)
 have D:=hid P;rw[P];clear P;go_enter func59,ntmps59;go_upto_region 1 with fail;obtain⟨i,v⟩:=ex w.heap.size
 obtain⟨E,C⟩:∃E,E=w.alloc (.cells #[.int .i64 sh,.int .i64 (y:Int),.int .i64 (m:Int),.int .i64 (d:Int),.int .i64 (h:Int),.int .i64 (mi:Int),.int .i64 (c:Int),.int .i64 (zh:Int),.int .i64 (zm:Int),.int .i64 nanos,.int .u8 z] 96):=⟨_,rfl⟩
 have b:Hid (Blk E i 96 #[.int .i64 sh,.int .i64 (y:Int),.int .i64 (m:Int),.int .i64 (d:Int),.int .i64 (h:Int),.int .i64 (mi:Int),.int .i64 (c:Int),.int .i64 (zh:Int),.int .i64 (zm:Int),.int .i64 nanos,.int .u8 z]/\Below i w E):=hid (by rw[C,<-v];exact⟨Q4 _ _ _,(K1 _ _).alloc (K4 _) _⟩);have l:=hid v;(try rw[<-C]);(try rw[v]);clear C v;obtain⟨N,o⟩:=ex (decide (sh=2))
 have K:=hid o;go_cut [10] (fun s10 M=>s10=.bool (!N)/\M=E)
 case first=>
  have q0:E.cell? ⟨i,0,none⟩=some (.int .i64 sh):=b.out.1.cell 0;have hbe:(sh != 2)=!N:=by rw[<-o,bne];congr 1
  have hbe2:(sh==2)=N:=by rw[<-o];rfl
  clear o;go_wp2;go_meet
  first|exact⟨rfl,rfl⟩|exact⟨by simp,rfl⟩
 case rest=>
 obtain⟨rfl,rfl⟩:=hcut;refine(‹∀(a:Act) (w_1:World),Code.wp prog _ _ a w_1->_›) _ _ ?_;go_cut [] (fun M=>Hid ((sh=2\/Cal.vld y m d=true)/\Blk M i 96 #[.int .i64 sh,.int .i64 (y:Int),.int .i64 (m:Int),.int .i64 (d:Int),.int .i64 (h:Int),.int .i64 (mi:Int),.int .i64 (c:Int),.int .i64 (zh:Int),.int .i64 (zm:Int),.int .i64 nanos,.int .u8 z]/\Below i w M))
 case first=>
  have T:wc.cell? ⟨i,1,none⟩=some (.int .i64 (y:Int)):=b.out.1.cell 1;have U:wc.cell? ⟨i,2,none⟩=some (.int .i64 (m:Int)):=b.out.1.cell 2;have S:wc.cell? ⟨i,3,none⟩=some (.int .i64 (d:Int)):=b.out.1.cell 3;clear o;cases N with
  |true=>
   have O:Hid (sh=2):=hid (qqy K.out);go_wp2;go_meet;exact hid ⟨.inl O.out,b.out.1,b.out.2⟩
  |false=>
   have O:Hid (¬sh=2):=hid (qqz K.out);cases q:Cal.vld y m d with
   |true=>
    have x:=hid q;have Q:=hid (V.out q);clear q;go_wp2_with fail;refine(Q.out _).mono ?_;rintro e L ⟨rfl,j⟩;have s:Hid (Blk L i 96 #[.int .i64 sh,.int .i64 (y:Int),.int .i64 (m:Int),.int .i64 (d:Int),.int .i64 (h:Int),.int .i64 (mi:Int),.int .i64 (c:Int),.int .i64 (zh:Int),.int .i64 (zm:Int),.int .i64 nanos,.int .u8 z]/\Below i w L):=hid ⟨b.out.1.below j b.out.1.lt,b.out.2.trans (j.mono (Q6 b.out.1.lt))⟩;clear j T U S;go_wp2;go_meet;exact hid ⟨.inr x.out,s.out.1,s.out.2⟩
   |false=>
    have n:Hid (r=false):=hid (by rw[<-D.out];unfold prngB;rw[q,qqx O.out];rfl);have Q:=hid (X.out q);clear q;go_wp2_with fail;refine(Q.out _).mono ?_;rintro e L ⟨rfl,j⟩;have s:Hid (Blk L i 96 #[.int .i64 sh,.int .i64 (y:Int),.int .i64 (m:Int),.int .i64 (d:Int),.int .i64 (h:Int),.int .i64 (mi:Int),.int .i64 (c:Int),.int .i64 (zh:Int),.int .i64 (zm:Int),.int .i64 nanos,.int .u8 z]/\Below i w L):=hid ⟨b.out.1.below j b.out.1.lt,b.out.2.trans (j.mono (Q6 b.out.1.lt))⟩;clear j T U S;go_wp2;go_ret;rw[n.out,l.out];exact⟨rfl,s.out.2⟩
 case rest=>
 have t:=hcut;clear hcut b o;refine(‹∀(a:Act) (w_1:World),Code.wp prog _ _ a w_1->_›) _ _ ?_;have i0:∀w,(Instr.index 129 (.agg #[.int .i64 23,.int .i64 59,.int .i64 59,.int .i64 23,.int .i64 59]) (.int .i64 0)).run prog w=.ok (.int .i64 23) w:=fun _=>by kernel_rfl
 have i1:∀w,(Instr.index 129 (.agg #[.int .i64 23,.int .i64 59,.int .i64 59,.int .i64 23,.int .i64 59]) (.int .i64 1)).run prog w=.ok (.int .i64 59) w:=fun _=>by kernel_rfl
 have i2:∀w,(Instr.index 129 (.agg #[.int .i64 23,.int .i64 59,.int .i64 59,.int .i64 23,.int .i64 59]) (.int .i64 2)).run prog w=.ok (.int .i64 59) w:=fun _=>by kernel_rfl
 have i3:∀w,(Instr.index 129 (.agg #[.int .i64 23,.int .i64 59,.int .i64 59,.int .i64 23,.int .i64 59]) (.int .i64 3)).run prog w=.ok (.int .i64 23) w:=fun _=>by kernel_rfl
 have i4:∀w,(Instr.index 129 (.agg #[.int .i64 23,.int .i64 59,.int .i64 59,.int .i64 23,.int .i64 59]) (.int .i64 4)).run prog w=.ok (.int .i64 59) w:=fun _=>by kernel_rfl
 go_upto_block 0 with fail;obtain⟨A,B⟩:=ex (wc.alloc (.cells #[.int .i64 23,.int .i64 59,.int .i64 59,.int .i64 23,.int .i64 59] 129))
 have f:Hid (Blk A i 96 #[.int .i64 sh,.int .i64 (y:Int),.int .i64 (m:Int),.int .i64 (d:Int),.int .i64 (h:Int),.int .i64 (mi:Int),.int .i64 (c:Int),.int .i64 (zh:Int),.int .i64 (zm:Int),.int .i64 nanos,.int .u8 z]/\Below i w A):=hid (by rw[<-B];exact⟨t.out.2.1.alloc _,t.out.2.2.alloc (Q6 t.out.2.1.lt) _⟩);(try rw[B]);clear B;have q4:A.cell? ⟨i,4,none⟩=some (.int .i64 (h:Int)):=f.out.1.cell 4;have q5:A.cell? ⟨i,5,none⟩=some (.int .i64 (mi:Int)):=f.out.1.cell 5;have q6:A.cell? ⟨i,6,none⟩=some (.int .i64 (c:Int)):=f.out.1.cell 6;have q7:A.cell? ⟨i,7,none⟩=some (.int .i64 (zh:Int)):=f.out.1.cell 7;have q8:A.cell? ⟨i,8,none⟩=some (.int .i64 (zm:Int)):=f.out.1.cell 8;go_wp2_with fail;go_loop [28] (fun s28=>∃k:Int,0<=k/\k<=5/\s28=.int .i64 k/\Hid ((0<k->h<=23)/\(1<k->mi<=59)/\(2<k->c<=59)/\(3<k->zh<=23)/\(4<k->zm<=59))) (fun s28=>5-(intOf s28).toNat)
 case atStart=>exact⟨0,by omega,by omega,rfl,hid ⟨by omega,by omega,by omega,by omega,by omega⟩⟩
 case round=>
  obtain⟨k,hk0,hk5,rfl,x⟩:=hrel;have R:k=0\/k=1\/k=2\/k=3\/k=4\/k=5:=by omega
  rcases R with rfl|rfl|rfl|rfl|rfl|rfl
  .by_cases hx:h<=23
   .have g:¬(23:Int)<(h:Int):=by omega
    have u:=hid hx;clear hx;go_wp2;go_round
    case rel=>exact⟨1,by omega,by omega,rfl,hid (by obtain⟨I,F,G,J,H⟩:=x.out;have:=u.out;exact⟨by omega,by omega,by omega,by omega,by omega⟩)⟩
    case measure=>simp[intOf]
   .have g:(23:Int)<(h:Int):=by omega
    have n:Hid (r=false):=hid (by rw[<-D.out];unfold prngB;rw[qqx (p:=h<=23) hx];simp);clear hx;go_wp2;go_ret;rw[n.out,l.out];exact⟨rfl,f.out.2⟩
  .by_cases hx:mi<=59
   .have g:¬(59:Int)<(mi:Int):=by omega
    have u:=hid hx;clear hx;go_wp2;go_round
    case rel=>exact⟨2,by omega,by omega,rfl,hid (by obtain⟨I,F,G,J,H⟩:=x.out;have:=u.out;exact⟨by omega,by omega,by omega,by omega,by omega⟩)⟩
    case measure=>simp[intOf]
   .have g:(59:Int)<(mi:Int):=by omega
    have n:Hid (r=false):=hid (by rw[<-D.out];unfold prngB;rw[qqx (p:=mi<=59) hx];simp);clear hx;go_wp2;go_ret;rw[n.out,l.out];exact⟨rfl,f.out.2⟩
  .by_cases hx:c<=59
   .have g:¬(59:Int)<(c:Int):=by omega
    have u:=hid hx;clear hx;go_wp2;go_round
    case rel=>exact⟨3,by omega,by omega,rfl,hid (by obtain⟨I,F,G,J,H⟩:=x.out;have:=u.out;exact⟨by omega,by omega,by omega,by omega,by omega⟩)⟩
    case measure=>simp[intOf]
   .have g:(59:Int)<(c:Int):=by omega
    have n:Hid (r=false):=hid (by rw[<-D.out];unfold prngB;rw[qqx (p:=c<=59) hx];simp);clear hx;go_wp2;go_ret;rw[n.out,l.out];exact⟨rfl,f.out.2⟩
  .by_cases hx:zh<=23
   .have g:¬(23:Int)<(zh:Int):=by omega
    have u:=hid hx;clear hx;go_wp2;go_round
    case rel=>exact⟨4,by omega,by omega,rfl,hid (by obtain⟨I,F,G,J,H⟩:=x.out;have:=u.out;exact⟨by omega,by omega,by omega,by omega,by omega⟩)⟩
    case measure=>simp[intOf]
   .have g:(23:Int)<(zh:Int):=by omega
    have n:Hid (r=false):=hid (by rw[<-D.out];unfold prngB;rw[qqx (p:=zh<=23) hx];simp);clear hx;go_wp2;go_ret;rw[n.out,l.out];exact⟨rfl,f.out.2⟩
  .by_cases hx:zm<=59
   .have g:¬(59:Int)<(zm:Int):=by omega
    have u:=hid hx;clear hx;go_wp2;go_round
    case rel=>exact⟨5,by omega,by omega,rfl,hid (by obtain⟨I,F,G,J,H⟩:=x.out;have:=u.out;exact⟨by omega,by omega,by omega,by omega,by omega⟩)⟩
    case measure=>simp[intOf]
   .have g:(59:Int)<(zm:Int):=by omega
    have n:Hid (r=false):=hid (by rw[<-D.out];unfold prngB;rw[qqx (p:=zm<=59) hx];simp);clear hx;go_wp2;go_ret;rw[n.out,l.out];exact⟨rfl,f.out.2⟩
  .have n:Hid (r=true):=hid (by
    obtain⟨I,F,G,J,H⟩:=x.out;rw[<-D.out];unfold prngB;rw[qqk (I (by omega)),qqk (F (by omega)),qqk (G (by omega)),qqk (J (by omega)),qqk (H (by omega))];rcases t.out.1 with h|h<;>simp[h])
   go_wp2;go_ret;rw[n.out,l.out];exact⟨rfl,f.out.2⟩
theorem rep48 (n:Nat):J0 [48] n=K9 n (48:UInt8):=by
 induction n with
 |zero=>rfl
 |succ n ih=>
  show[48]++J0 [48] n=_;rw[ih];rfl
theorem zcf (x n:Nat) (i j:Int) (hi:i=(x:Int)) (hj:j=(n:Int)) (h1:1<=n) (hn:n<=9) (hx:x<10 ^ n) (w:World) (hT:UT w):
 Calls prog 117 #[.int .i64 i,.int .i64 j] w fun e w'=>e=.returned (.string ⟨(Z6 n x).toArray⟩)/\Below w.heap.size w w':=by
 subst hi;subst hj;have hx9:x<1000000000:=Nat.lt_of_lt_of_le hx (Nat.pow_le_pow_right (n:=10) (by omega) (show n<=9 by omega));have l:(Q9 x).length<=n:=by rw[V0];exact Nat.le_of_succ_le_succ (by have:=Gr.zbr (n-1) x (by rwa[show n-1+1=n from by omega]);omega)
 have p:=hid (fun(W:World) (hW:UT W)=>zhm (x:Int) (by omega) (by omega) W hW);rw[Gr.zhd]at p;have a:=hid (Gr.zqi n x h1 hx);obtain⟨d,t⟩:=ex (Q9 x)
 rw[t]at p a l;obtain⟨r,s⟩:=ex (Z6 n x)
 rw[s]at a ⊢;obtain⟨z,m⟩:=ex (K9 (n-d.length) (48:UInt8))
 have hzl:z.length<=9:=by rw[<-m];simp;omega
 have f:Hid (∀W,Calls prog 146 #[.string ⟨#[48]⟩,.int .i64 ((n-d.length:Nat):Int)] W fun e w'=>e=.returned (.string ⟨z.toArray⟩)/\Below W.heap.size W w'):=hid (fun W=>by
  have:=strings_Repeat ⟨#[48]⟩ (n-d.length) W (by omega) (by show 1*(n-d.length)<=_;omega);rw[show(⟨#[48]⟩:ByteArray).data.toList=[48]from rfl,rep48,m]at this;exact this)
 rw[m]at a;have c:((n-d.length:Nat):Int)=max 0 ((n:Int)-(d.length:Int)):=by omega
 rw[c]at f;have hm0:0<=(n:Int)-(d.length:Int):=by omega
 have k:=fun W=>zad z d (by omega) W
 rw[a.out]at k;have q:=hid hT;clear t s m c hT hx;go_enter func117,ntmps117;go_wp2_with fail;refine(p.out _ q.out).mono ?_;rintro e w1 ⟨rfl,h⟩;have b:=hid h;clear h;go_wp2_with fail;refine(f.out _).mono ?_;rintro e u ⟨rfl,g⟩;have o:Hid (Below w.heap.size w u):=hid (b.out.trans (g.mono b.out.size));clear g;go_wp2;go_ret;exact⟨rfl,o.out⟩
theorem zfs (sh:Int) (y m d h mi c nanos:Nat) (zh zm z:Int) (hy:y<=9999) (hm:m<=99) (hd:d<=99) (hh:h<=99) (hmi:mi<=99) (hc:c<=99) (hn:nanos<=999999999) (hn0:sh=1->nanos=0) (w:World) (hT:UT w):
 Calls prog 90 #[.agg #[.int .i64 sh,.int .i64 (y:Int),.int .i64 (m:Int),.int .i64 (d:Int),.int .i64 (h:Int),.int .i64 (mi:Int),.int .i64 (c:Int),.int .i64 zh,.int .i64 zm,.int .i64 (nanos:Int),.int .u8 z]] w fun e w'=>e=.returned (.string ⟨((if sh=2 then[]else dateS y m d)++(if sh=3 then[84]else[])++(if sh=1 then[]else clkS h mi c nanos):K2).toArray⟩)/\Below w.heap.size w w':=by
 have HT:=hid hT;have a1:=hid hn0;clear hT hn0;have H:=hid (fun(W:World) (hW:UT W)=>zcf y 4 (y:Int) 4 rfl rfl (by omega) (by omega) (by omega) W hW);have aj:=za9 4 y;have P:=hid (fun(W:World) (hW:UT W)=>zcf m 2 (m:Int) 2 rfl rfl (by omega) (by omega) (by omega) W hW);have aw:=za9 2 m;have Q:=hid (fun(W:World) (hW:UT W)=>zcf d 2 (d:Int) 2 rfl rfl (by omega) (by omega) (by omega) W hW);have ab:=za9 2 d;have R:=hid (fun(W:World) (hW:UT W)=>zcf h 2 (h:Int) 2 rfl rfl (by omega) (by omega) (by omega) W hW);have al:=za9 2 h;have Y:=hid (fun(W:World) (hW:UT W)=>zcf mi 2 (mi:Int) 2 rfl rfl (by omega) (by omega) (by omega) W hW);have ai:=za9 2 mi;have X:=hid (fun(W:World) (hW:UT W)=>zcf c 2 (c:Int) 2 rfl rfl (by omega) (by omega) (by omega) W hW);have am:=za9 2 c;have ah:=hid (fun(W:World) (hW:UT W)=>zcf nanos 9 (nanos:Int) 9 rfl rfl (by omega) (by omega) (by omega) W hW);have au:=za9 9 nanos;obtain⟨py,Z⟩:=ex (Z6 4 y)
 rw[Z]at H aj;obtain⟨pm,G⟩:=ex (Z6 2 m)
 rw[G]at P aw;obtain⟨pd,K⟩:=ex (Z6 2 d)
 rw[K]at Q ab;obtain⟨ph,I⟩:=ex (Z6 2 h)
 rw[I]at R al;obtain⟨pi,T⟩:=ex (Z6 2 mi)
 rw[T]at Y ai;obtain⟨pc,aa⟩:=ex (Z6 2 c)
 rw[aa]at X am;obtain⟨N,L⟩:=ex (Z6 9 nanos)
 rw[L]at ah au;have A:Hid (dateS y m d=py++[45]++pm++[45]++pd/\clkS h mi c nanos=ph++[58]++pi++[58]++pc++nanoS nanos/\nanoS nanos=(if nanos=0 then[]else 46::trimZ N)):=hid ⟨by simp only[dateS,Z,G,K];simp,by simp only[clkS,I,T,aa];simp,by simp only[nanoS,L]⟩;clear Z G K I T aa L;obtain⟨r,hr⟩:∃r:K2,((if sh=2 then[]else dateS y m d)++(if sh=3 then[84]else[])++(if sh=1 then[]else clkS h mi c nanos):K2)=r:=⟨_,rfl⟩
 have a3:=hid hr;rw[hr];clear hr;obtain⟨l,B⟩:=ex w.heap.size
 obtain⟨a,J⟩:∃a,a=w.alloc (.cells #[.int .i64 sh,.int .i64 (y:Int),.int .i64 (m:Int),.int .i64 (d:Int),.int .i64 (h:Int),.int .i64 (mi:Int),.int .i64 (c:Int),.int .i64 zh,.int .i64 zm,.int .i64 (nanos:Int),.int .u8 z] 96):=⟨_,rfl⟩
 have b:Hid (Blk a l 96 #[.int .i64 sh,.int .i64 (y:Int),.int .i64 (m:Int),.int .i64 (d:Int),.int .i64 (h:Int),.int .i64 (mi:Int),.int .i64 (c:Int),.int .i64 zh,.int .i64 zm,.int .i64 (nanos:Int),.int .u8 z]/\Below l w a/\UT a):=hid (by
  rw[J,<-B];exact⟨Q4 _ _ _,(K1 _ _).alloc (K4 _) _,Q1 _ _ HT.out ((K1 _ _).alloc (K4 _) _)⟩)
 have g:Hid (∀W:WB a.heap.size a,UT W.w):=hid (fun W=>Q1 _ _ b.out.2.2 W.h);have aJ:=hid B;have ad:Hid (∀W:WB a.heap.size a,Calls prog 117 #[.int .i64 (y:Int),.int .i64 4] W.w fun e w'=>e=.returned (.string ⟨py.toArray⟩)/\Below a.heap.size a w'):=hid (fun W=>(H.out W.w (g.out W)).mono (fun _ _ ⟨o,n⟩=>⟨o,W.h.trans (n.mono W.h.size)⟩));have an:Hid (∀W:WB a.heap.size a,Calls prog 117 #[.int .i64 (m:Int),.int .i64 2] W.w fun e w'=>e=.returned (.string ⟨pm.toArray⟩)/\Below a.heap.size a w'):=hid (fun W=>(P.out W.w (g.out W)).mono (fun _ _ ⟨o,n⟩=>⟨o,W.h.trans (n.mono W.h.size)⟩));have ar:Hid (∀W:WB a.heap.size a,Calls prog 117 #[.int .i64 (d:Int),.int .i64 2] W.w fun e w'=>e=.returned (.string ⟨pd.toArray⟩)/\Below a.heap.size a w'):=hid (fun W=>(Q.out W.w (g.out W)).mono (fun _ _ ⟨o,n⟩=>⟨o,W.h.trans (n.mono W.h.size)⟩));have ag:Hid (∀W:WB a.heap.size a,Calls prog 117 #[.int .i64 (h:Int),.int .i64 2] W.w fun e w'=>e=.returned (.string ⟨ph.toArray⟩)/\Below a.heap.size a w'):=hid (fun W=>(R.out W.w (g.out W)).mono (fun _ _ ⟨o,n⟩=>⟨o,W.h.trans (n.mono W.h.size)⟩));have aA:Hid (∀W:WB a.heap.size a,Calls prog 117 #[.int .i64 (mi:Int),.int .i64 2] W.w fun e w'=>e=.returned (.string ⟨pi.toArray⟩)/\Below a.heap.size a w'):=hid (fun W=>(Y.out W.w (g.out W)).mono (fun _ _ ⟨o,n⟩=>⟨o,W.h.trans (n.mono W.h.size)⟩));have ap:Hid (∀W:WB a.heap.size a,Calls prog 117 #[.int .i64 (c:Int),.int .i64 2] W.w fun e w'=>e=.returned (.string ⟨pc.toArray⟩)/\Below a.heap.size a w'):=hid (fun W=>(X.out W.w (g.out W)).mono (fun _ _ ⟨o,n⟩=>⟨o,W.h.trans (n.mono W.h.size)⟩));clear H P Q R Y X;go_enter func90,ntmps90;go_upto_region 2 with fail;(try rw[<-J]);(try rw[B]);clear J B;have M:a.cell? ⟨l,0,none⟩=some (.int .i64 sh):=(b.out.1.below (K1 _ _) b.out.1.lt).cell 0;go_upto_if 6 with fail;go_cut [3] (fun s3 wx=>∃S:K2,s3=.string ⟨S.toArray⟩/\S.length<=60/\Hid (S=(if sh=2 then[]else dateS y m d)/\Below a.heap.size a wx))
 case first=>
  by_cases h2:sh=2
  .have aC:(sh != 2)=false:=by simp[h2]
   have p:Hid (([]:K2)=if sh=2 then[]else dateS y m d):=hid (by rw[if_pos h2]);clear h2;go_wp2;go_meet;exact⟨[],rfl,by simp,hid ⟨p.out,K1 _ _⟩⟩
  .have aC:(sh != 2)=true:=by simpa using h2
   have p:Hid ((if sh=2 then[]else dateS y m d)=dateS y m d):=hid (by rw[if_neg h2]);clear h2;go_upto_region 3 with fail;clear M;have p1:∀W:WB a.heap.size a,W.w.cell? ⟨l,1,none⟩=some (.int .i64 (y:Int)):=fun W=>(b.out.1.below W.h b.out.1.lt).cell 1
   have p2:∀W:WB a.heap.size a,W.w.cell? ⟨l,2,none⟩=some (.int .i64 (m:Int)):=fun W=>(b.out.1.below W.h b.out.1.lt).cell 2
   have p3:∀W:WB a.heap.size a,W.w.cell? ⟨l,3,none⟩=some (.int .i64 (d:Int)):=fun W=>(b.out.1.below W.h b.out.1.lt).cell 3
   obtain⟨s1,D⟩:∃x:K2,py++[45]=x:=⟨_,rfl⟩
   have Ls1:s1.length<=20:=by rw[<-D];simp<;>omega
   have a7:=fun W=>zad py [45] (by first|omega| (simp<;>omega)) W
   rw[D]at a7;have aV:=hid D;clear D;obtain⟨s2,q⟩:∃x:K2,s1++pm=x:=⟨_,rfl⟩
   have Ls2:s2.length<=30:=by rw[<-q];simp<;>omega
   have aM:=fun W=>zad s1 pm (by first|omega| (simp<;>omega)) W
   rw[q]at aM;have aP:=hid q;clear q;obtain⟨s3,E⟩:∃x:K2,s2++[45]=x:=⟨_,rfl⟩
   have Ls3:s3.length<=40:=by rw[<-E];simp<;>omega
   have aL:=fun W=>zad s2 [45] (by first|omega| (simp<;>omega)) W
   rw[E]at aL;have aZ:=hid E;clear E;obtain⟨s4,s⟩:∃x:K2,s3++pd=x:=⟨_,rfl⟩
   have aG:s4.length<=60:=by rw[<-s];simp<;>omega
   have aR:=fun W=>zad s3 pd (by first|omega| (simp<;>omega)) W
   rw[s]at aR;have a5:=hid s;clear s;refine zac a.heap.size a (by kernel_rfl) (by kernel_rfl) (K1 _ _) ?_
   iterate 17 (try go_big_quiet_step ((first| (with_reducible refine X3 (ad.out _))| (with_reducible refine X3 (an.out _))| (with_reducible refine X3 (ar.out _)))))
   refine wpQuiet_nil ?_;rintro _ ⟨wz,rfl⟩;go_wp2;go_meet;exact⟨s4,rfl,aG,hid ⟨by rw[p.out,A.out.1,<-a5.out,<-aZ.out,<-aP.out,<-aV.out],wz.h⟩⟩
 case rest=>
 obtain⟨S,rfl,hS,HS⟩:=hcut;clear M;have M:wc.cell? ⟨l,0,none⟩=some (.int .i64 sh):=(b.out.1.below HS.out.2 b.out.1.lt).cell 0;go_upto_region 4 with fail;obtain⟨wk,aX⟩:∃wk,wk=wc:=⟨_,rfl⟩
 subst aX;go_upto_if 25 with fail;go_cut [3] (fun s3 wx=>∃U:K2,s3=.string ⟨U.toArray⟩/\U.length<=61/\Hid (U=S++(if sh=3 then[84]else[])/\wx=wk))
 case first=>
  by_cases h3:sh=3
  .have aT:(sh==3)=true:=by simp[h3]
   have p:Hid ((if sh=3 then([84]:K2)else[])=[84]):=hid (by rw[if_pos h3]);clear h3;obtain⟨s5,C⟩:∃x:K2,S++[84]=x:=⟨_,rfl⟩
   have aB:s5.length<=61:=by rw[<-C];simp<;>omega
   have aD:=fun W=>zad S [84] (by first|omega| (simp<;>omega)) W
   rw[C]at aD;have aN:=hid C;clear C;go_wp2;go_meet;exact⟨s5,rfl,aB,hid ⟨by rw[p.out,aN.out],rfl⟩⟩
  .have aT:(sh==3)=false:=by simpa using h3
   have p:Hid ((if sh=3 then([84]:K2)else[])=[]):=hid (by rw[if_neg h3]);clear h3;go_wp2;go_meet;exact⟨S,rfl,by omega,hid ⟨by rw[p.out];simp,rfl⟩⟩
 case rest=>
 obtain⟨U,rfl,hU,HU⟩:=hcut;obtain⟨wm,aO⟩:∃wm,wm=wc:=⟨_,rfl⟩
 subst aO;have O:Hid (Below a.heap.size a wm):=hid (by rw[HU.out.2];exact HS.out.2);clear M;have M:wm.cell? ⟨l,0,none⟩=some (.int .i64 sh):=(b.out.1.below O.out b.out.1.lt).cell 0;go_upto_region 6 with fail;go_upto_if 30 with fail;go_cut [3] (fun s3 wx=>∃V:K2,s3=.string ⟨V.toArray⟩/\V.length<=160/\Hid (U++(if sh=1 then[]else clkS h mi c nanos)=V++nanoS nanos/\Below a.heap.size a wx))
 case first=>
  by_cases h1:sh=1
  .have aQ:(sh != 1)=false:=by simp[h1]
   have p:Hid (U++(if sh=1 then[]else clkS h mi c nanos)=U++nanoS nanos):=hid (by rw[if_pos h1,a1.out h1];rfl);clear h1;go_wp2;go_meet;exact⟨U,rfl,by omega,hid ⟨p.out,O.out⟩⟩
  .have aQ:(sh != 1)=true:=by simpa using h1
   have p:Hid ((if sh=1 then[]else clkS h mi c nanos)=clkS h mi c nanos):=hid (by rw[if_neg h1]);clear h1;go_upto_region 7 with fail;clear M;have p4:∀W:WB a.heap.size a,W.w.cell? ⟨l,4,none⟩=some (.int .i64 (h:Int)):=fun W=>(b.out.1.below W.h b.out.1.lt).cell 4
   have p5:∀W:WB a.heap.size a,W.w.cell? ⟨l,5,none⟩=some (.int .i64 (mi:Int)):=fun W=>(b.out.1.below W.h b.out.1.lt).cell 5
   have p6:∀W:WB a.heap.size a,W.w.cell? ⟨l,6,none⟩=some (.int .i64 (c:Int)):=fun W=>(b.out.1.below W.h b.out.1.lt).cell 6
   obtain⟨s6,F⟩:∃x:K2,ph++[58]=x:=⟨_,rfl⟩
   have Ls6:s6.length<=20:=by rw[<-F];simp<;>omega
   have aE:=fun W=>zad ph [58] (by first|omega| (simp<;>omega)) W
   rw[F]at aE;have a4:=hid F;clear F;obtain⟨s7,u⟩:∃x:K2,s6++pi=x:=⟨_,rfl⟩
   have Ls7:s7.length<=30:=by rw[<-u];simp<;>omega
   have aY:=fun W=>zad s6 pi (by first|omega| (simp<;>omega)) W
   rw[u]at aY;have a6:=hid u;clear u;obtain⟨s8,t⟩:∃x:K2,s7++[58]=x:=⟨_,rfl⟩
   have Ls8:s8.length<=40:=by rw[<-t];simp<;>omega
   have aW:=fun W=>zad s7 [58] (by first|omega| (simp<;>omega)) W
   rw[t]at aW;have aK:=hid t;clear t;obtain⟨s9,v⟩:∃x:K2,s8++pc=x:=⟨_,rfl⟩
   have Ls9:s9.length<=60:=by rw[<-v];simp<;>omega
   have a2:=fun W=>zad s8 pc (by first|omega| (simp<;>omega)) W
   rw[v]at a2;have a0:=hid v;clear v;obtain⟨s10,i⟩:∃x:K2,U++s9=x:=⟨_,rfl⟩
   have aq:s10.length<=160:=by rw[<-i];simp<;>omega
   have ac:=fun W=>zad U s9 (by first|omega| (simp<;>omega)) W
   rw[i]at ac;have az:=hid i;clear i;refine zac a.heap.size a (by kernel_rfl) (by kernel_rfl) O.out ?_
   iterate 19 (try go_big_quiet_step ((first| (with_reducible refine X3 (ag.out _))| (with_reducible refine X3 (aA.out _))| (with_reducible refine X3 (ap.out _)))))
   refine wpQuiet_nil ?_;rintro _ ⟨wy,rfl⟩;go_wp2;go_meet;exact⟨s10,rfl,aq,hid ⟨by rw[p.out,A.out.2.1,<-az.out,<-a0.out,<-aK.out,<-a6.out,<-a4.out];simp,wy.h⟩⟩
 case rest=>
 obtain⟨V,rfl,hV,HV⟩:=hcut;clear M;have q9:wc.cell? ⟨l,9,none⟩=some (.int .i64 (nanos:Int)):=(b.out.1.below HV.out.2 b.out.1.lt).cell 9;have HZ:Hid (∀W,Below a.heap.size a W->Below w.heap.size w W):=hid (fun W hW=>by rw[aJ.out];exact b.out.2.1.trans (hW.mono (Q6 b.out.1.lt)));have ao:Hid (r=V++nanoS nanos):=hid (by rw[<-a3.out,<-HV.out.1,HU.out.1,HS.out.1]);by_cases hz:0<nanos
 .have aH:(0:Int)<(nanos:Int):=by omega
  have af:Hid (∀W,Calls prog 118 #[.string ⟨N.toArray⟩,.string ⟨#[48]⟩] W fun e w'=>e=.returned (.string ⟨(trimZ N).toArray⟩)/\w'=W):=hid (fun W=>strings_TrimRight_one ⟨N.toArray⟩ 48 (by decide) W (by show N.toArray.size<=_;simp;omega));have aF:(trimZ N).length<=9:=by unfold trimZ;rw[U0];exact U1 (D0 _).length_le (by rw[U0];omega)
  obtain⟨f,hf⟩:=ex (trimZ N)
  have aU:=hid hf;rw[hf]at af aF;clear hf;obtain⟨s11,k⟩:∃x:K2,[46]++f=x:=⟨_,rfl⟩
  have Ls11:s11.length<=20:=by rw[<-k];simp<;>omega
  have ay:=fun W=>zad [46] f (by first|omega| (simp<;>omega)) W
  rw[k]at ay;have av:=hid k;clear k;obtain⟨s12,j⟩:∃x:K2,V++s11=x:=⟨_,rfl⟩
  have Ls12:s12.length<=200:=by rw[<-j];simp<;>omega
  have ax:=fun W=>zad V s11 (by first|omega| (simp<;>omega)) W
  rw[j]at ax;have ak:=hid j;clear j;have HE:Hid (r=s12):=hid (by rw[ao.out,A.out.2.2,if_neg (by omega),aU.out,<-ak.out,<-av.out];simp);have aS:=hid (ah.out wc (g.out ⟨wc,HV.out.2⟩));clear hz;go_wp2_with fail;refine aS.out.mono ?_;rintro e w5 ⟨rfl,ae⟩;have aI:Hid (Below a.heap.size a w5):=hid (HV.out.2.trans (ae.mono HV.out.2.size));clear ae q9;go_wp2_with fail;refine(af.out _).mono ?_;rintro e w6 ⟨rfl,rfl⟩;go_wp2;go_ret;exact⟨by rw[HE.out]<;>rfl,HZ.out _ aI.out⟩
 .have aH:¬(0:Int)<(nanos:Int):=by omega
  have HE:Hid (r=V):=hid (by rw[ao.out,A.out.2.2,if_pos (by omega)];simp);go_wp2;go_ret;exact⟨by rw[HE.out]<;>rfl,HZ.out _ HV.out.2⟩
theorem zxi (y m d h mi c nanos:Nat) (zh zm z:Int) (hy:y<=9999) (hm:m<=99) (hd:d<=99) (hh:h<=99) (hmi:mi<=99) (hc:c<=99) (hn:nanos<=999999999) (hn0:nanos=0) (w:World) (hT:UT w):
 Calls prog 90 #[.agg #[.int .i64 1,.int .i64 (y:Int),.int .i64 (m:Int),.int .i64 (d:Int),.int .i64 (h:Int),.int .i64 (mi:Int),.int .i64 (c:Int),.int .i64 zh,.int .i64 zm,.int .i64 (nanos:Int),.int .u8 z]] w fun e w'=>e=.returned (.string ⟨((dateS y m d):K2).toArray⟩)/\Below w.heap.size w w':=by
 simpa using zfs 1 y m d h mi c nanos zh zm z hy hm hd hh hmi hc hn (fun _=>hn0) w hT
theorem zxj (y m d h mi c nanos:Nat) (zh zm z:Int) (hy:y<=9999) (hm:m<=99) (hd:d<=99) (hh:h<=99) (hmi:mi<=99) (hc:c<=99) (hn:nanos<=999999999) (w:World) (hT:UT w):
 Calls prog 90 #[.agg #[.int .i64 2,.int .i64 (y:Int),.int .i64 (m:Int),.int .i64 (d:Int),.int .i64 (h:Int),.int .i64 (mi:Int),.int .i64 (c:Int),.int .i64 zh,.int .i64 zm,.int .i64 (nanos:Int),.int .u8 z]] w fun e w'=>e=.returned (.string ⟨((clkS h mi c nanos):K2).toArray⟩)/\Below w.heap.size w w':=by
 simpa using zfs 2 y m d h mi c nanos zh zm z hy hm hd hh hmi hc hn (by intro h;omega) w hT
theorem zq7 (y m d h mi c nanos:Nat) (zh zm z:Int) (hy:y<=9999) (hm:m<=99) (hd:d<=99) (hh:h<=99) (hmi:mi<=99) (hc:c<=99) (hn:nanos<=999999999) (w:World) (hT:UT w):
 Calls prog 90 #[.agg #[.int .i64 3,.int .i64 (y:Int),.int .i64 (m:Int),.int .i64 (d:Int),.int .i64 (h:Int),.int .i64 (mi:Int),.int .i64 (c:Int),.int .i64 zh,.int .i64 zm,.int .i64 (nanos:Int),.int .u8 z]] w fun e w'=>e=.returned (.string ⟨((dateS y m d++[84]++clkS h mi c nanos):K2).toArray⟩)/\Below w.heap.size w w':=by
 simpa using zfs 3 y m d h mi c nanos zh zm z hy hm hd hh hmi hc hn (by intro h;omega) w hT
noncomputable def osP (n:Int) (nanos:Nat):K2×Nat:=if n< -62167219200\/253402300800<=n then([],13)else(momS (n /86400) (n%86400).toNat nanos,0)
def zdf (r:K2×Nat) (w:World) (e:Ending) (w':World):Prop:=e=.returned (.tuple #[.string ⟨r.1.toArray⟩,.int .i64 (r.2:Nat)])/\Below w.heap.size w w'
theorem zuj {n:Int} {y m d:Int} (hv:Cal.vld y m d=true) (hn:Cal.num y m d=n):∃a b c:Nat,y=a/\m=b/\d=c/\a<=9999/\b<=99/\c<=99/\dateOf n=(a,b,c):=by
 have h:=Cal.zqg hv;have hd:=Cal.zy1 y m;refine⟨y.toNat,m.toNat,d.toNat,by omega,by omega,by omega,by omega,by omega,by omega,?_⟩;apply zja
 .rw[show((y.toNat:Nat):Int)=y from by omega,show((m.toNat:Nat):Int)=m from by omega,show((d.toNat:Nat):Int)=d from by omega];exact hv
 .rw[show((y.toNat:Nat):Int)=y from by omega,show((m.toNat:Nat):Int)=m from by omega,show((d.toNat:Nat):Int)=d from by omega,hn]
theorem zz9 (n:Int):-86400<n.tmod 86400/\n.tmod 86400<86400/\n=86400*n.tdiv 86400+n.tmod 86400:=by
 have h1:=Int.mul_tdiv_add_tmod n 86400;have h2:=E9 n (b:=86400) (by omega);have a:=E9 (-n) (b:=86400) (by omega);rw[Int.neg_tmod]at a;omega
theorem zhw (n:Int) (nanos:Nat) (j:Int) (hj:j=(nanos:Int)) (hna:nanos<=999999999) (h0:-900000000000<=n) (h1:n<=900000000000) (w:World) (hT:UT w):
 Calls prog 60 #[.int .i64 n,.int .i64 j] w (zdf (osP n nanos) w):=by
 subst hj;have HT:=hid hT;clear hT;have hna0:¬(nanos:Int)<0:=by omega
 have hna1:¬(999999999:Int)<(nanos:Int):=by omega
 by_cases hlo:n< -62167219200
 .have C:Hid (osP n nanos=([],13)):=hid (by unfold osP;rw[if_pos (.inl hlo)]);rw[C.out];go_enter func60,ntmps60;go_wp2;go_ret2;exact⟨rfl,K1 _ _⟩
 .by_cases hhi:253402300800<=n
  .have C:Hid (osP n nanos=([],13)):=hid (by unfold osP;rw[if_pos (.inr hhi)]);rw[C.out];go_enter func60,ntmps60;go_wp2;go_ret2;exact⟨rfl,K1 _ _⟩
  .obtain⟨D,O⟩:=ex (n /86400)
   obtain⟨R,T⟩:∃R:Nat,(n%86400).toNat=R:=⟨_,rfl⟩
   have L:-719528<=D:=by omega
   have J:D<=2932896:=by omega
   have hR1:R<=86399:=by omega
   have x:Hid (n /86400=D/\n%86400=(R:Int)):=hid ⟨O,by omega⟩;obtain⟨M,H⟩:=ex (momS D R nanos)
   have Z:=hid H;have C:Hid (osP n nanos=(M,0)):=hid (by unfold osP;rw[if_neg (by omega),O,T,H]);rw[C.out];have K:=hid (fun W=>zui D L J W);clear O T H;go_enter func60,ntmps60;go_upto_region 5 with fail;go_cut [6,7] (fun s6 s7 G=>(∃q t:Int,s6=.int .i64 q/\s7=.int .i64 t/\Hid (n=86400*q+t/\-86400<t/\t<86400))/\G=w)
   case first=>
    by_cases hn0:0<=n
    .go_wp2;go_meet;exact⟨⟨_,_,rfl,rfl,hid ⟨by omega,by omega,by omega⟩⟩,rfl⟩
    .have E:=hid (zz9 n);go_wp2;go_meet;exact⟨⟨_,_,rfl,rfl,hid ⟨E.out.2.2,E.out.1,E.out.2.1⟩⟩,rfl⟩
   case rest=>
   obtain⟨⟨q,t,rfl,rfl,f⟩,rfl⟩:=hcut;refine(‹∀(a:Act) (w_1:World),Code.wp prog _ _ a w_1->_›) _ _ ?_;have V:-86400<t:=f.out.2.1;have t1:t<86400:=f.out.2.2;have q0:-11000000<=q:=by have:=f.out;omega
   have q1:q<=11000000:=by have:=f.out;omega
   go_upto_if 30 with fail;go_cut [6,7] (fun s6 s7 G=>s6=.int .i64 D/\s7=.int .i64 (R:Int)/\G=wc)
   case first=>
    by_cases ht:t<0
    .have v:Hid (q-1=D/\t+86400=(R:Int)):=hid (by have h1:=f.out;have P:=x.out;omega);go_wp2;go_meet;rw[v.out.1,v.out.2];exact⟨rfl,rfl,rfl⟩
    .have v:Hid (q=D/\t=(R:Int)):=hid (by have h1:=f.out;have P:=x.out;omega);go_wp2;go_meet;rw[v.out.1,v.out.2];exact⟨rfl,rfl,rfl⟩
   case rest=>
   obtain⟨rfl,rfl,rfl⟩:=hcut;refine(‹∀(a:Act) (w_1:World),Code.wp prog _ _ a w_1->_›) _ _ ?_;clear V t1 q0 q1;go_wp2_with fail;refine(K.out _).mono ?_;rintro e Q ⟨y,m,d,rfl,U,h,p⟩;obtain⟨a,b,c,rfl,rfl,rfl,Y,E,X,s⟩:=zuj U h;obtain⟨i,u⟩:∃i:Nat,R /3600=i:=⟨_,rfl⟩
   obtain⟨o,r⟩:∃o:Nat,R /60%60=o:=⟨_,rfl⟩
   obtain⟨k,z⟩:∃k:Nat,R%60=k:=⟨_,rfl⟩
   have i1:(R:Int) /3600=(i:Int):=by omega
   have i2:(R:Int) /60%60=(o:Int):=by omega
   have i3:(R:Int)%60=(k:Int):=by omega
   have B:Hid (∀W,UT W->Calls prog 90 #[.agg #[.int .i64 3,.int .i64 (a:Int),.int .i64 (b:Int),.int .i64 (c:Int),.int .i64 (i:Int),.int .i64 (o:Int),.int .i64 (k:Int),.int .i64 0,.int .i64 0,.int .i64 (nanos:Int),.int .u8 0]] W fun e w'=>e=.returned (.string ⟨(dateS a b c++[84]++clkS i o k nanos).toArray⟩)/\Below W.heap.size W w'):=hid (fun W hW=>zq7 a b c i o k nanos 0 0 0 Y E X (by omega) (by omega) (by omega) hna W hW);have F:Hid (M=(dateS a b c++[84]++clkS i o k nanos)++[90]):=hid (by rw[<-Z.out];unfold momS;rw[s,u,r,z];simp);obtain⟨S,I⟩:=ex (dateS a b c++[84]++clkS i o k nanos)
   have hSl:S.length<=1000:=by
    rw[<-I];have P:(nanoS nanos).length<=10:=by
     unfold nanoS;split
     .simp
     .unfold trimZ;rw[U5,U0];have:=(D0 (fun c:UInt8=>c==48) (l:=(Z6 9 nanos).reverse)).length_le;rw[U0,za9]at this;omega
    simp[dateS,clkS,za9];omega
   rw[I]at B F;have g:Hid (Below wc.heap.size wc Q/\UT Q):=hid ⟨p,Q1 _ _ HT.out p⟩;have hadd:=fun W=>zad S [90] (by simp;omega) W
   clear U h s u r z I p;go_wp2_with fail;refine(B.out _ (Q1 _ _ g.out.2 ((K1 _ _).alloc (K4 _) _))).mono ?_;rintro e w2 ⟨rfl,A⟩;have N:Hid (Below wc.heap.size wc w2):=hid ((g.out.1.alloc g.out.1.size _).trans (A.mono (by have:=g.out.1.size;simp;omega)));clear A;go_wp2;go_ret2;unfold zdf;rw[F.out];exact⟨rfl,N.out⟩
structure MoOk (x:U7):Prop where
 y:x.y<=9999
 m:x.m<=99
 d:x.d<=99
 h:x.h<=99
 mi:x.mi<=99
 c:x.c<=99
 nanos:x.nanos<=999999999
 zh:x.zh<=99
 zm:x.zm<=99
 sh:(x.date=true/\x.time=true)\/(x.date=true/\x.time=false/\x.z=0)\/(x.date=false/\x.time=true/\x.z=0)
 z0:x.z=0->x.zh=0/\x.zm=0
theorem numAt2 {s:K2} {a v:Nat} (h:numAt s a 2=some v):v<=99:=by
 have:=(zcz h (by omega)).2.1;omega
theorem numAt4 {s:K2} {a v:Nat} (h:numAt s a 4=some v):v<=9999:=by
 have:=(zcz h (by omega)).2.1;omega
theorem zl3 {s:K2} {a:Nat} {k:Gr.Ck} (h:clockAt s a=some k):k.h<=99/\k.m<=99/\k.s<=99/\k.nanos<=999999999:=by
 unfold clockAt at h;split at h
 .rename_i h1 h2 h3;have d:=numAt2 h1;have b:=numAt2 h2;have c:=numAt2 h3;split at h
  .split at h
   .split at h
    .cases h
    .rename_i hn;injection h with h
     subst h;refine⟨d,b,c,?_⟩;have e:=zek (s.drop (a+9));have f:=zfe _ e;generalize (s.drop (a+9)).takeWhile V2=l at *;have:Gr.val l*10 ^ (9-l.length)<10 ^ l.length*10 ^ (9-l.length):=Nat.mul_lt_mul_of_pos_right f (Nat.pow_pos (by omega));rw[<-Nat.pow_add,show l.length+(9-l.length)=9 from by omega]at this;show Gr.val l*10 ^ (9-l.length)<=999999999;omega
   .grind
  .cases h
 .cases h
theorem zxl {s:K2} {a:Nat} {z:Gr.Zn} (h:zoneAt s a=some z):z.h<=99/\z.m<=99:=by
 unfold zoneAt at h;split at h
 .grind
 .split at h
  .rename_i h1 h2;split at h
   .injection h with h;subst h;exact⟨numAt2 h1,numAt2 h2⟩
   .cases h
  .cases h
theorem zrc {s:K2} {x:U7} (h:Y8 s=some x):MoOk x:=by
 unfold Y8 at h;split at h
 .split at h
  .rename_i k hk;obtain⟨c,a,b,f⟩:=zl3 hk;split at h
   .injection h with h;subst h
    exact⟨Q7 _,Q7 _,Q7 _,c,a,b,f,Q7 _,Q7 _,.inr (.inr ⟨rfl,rfl,rfl⟩),fun _=>⟨rfl,rfl⟩⟩
   .cases h
  .cases h
 .rename_i y m d hd;have o:y<=9999/\m<=99/\d<=99:=by
   unfold dateAt at hd;split at hd
   .rename_i h1 h2 h3;split at hd
    .injection hd with hd
     injection hd with e1 e2
     injection e2 with e2 e3
     subst e1 e2 e3;exact⟨numAt4 h1,numAt2 h2,numAt2 h3⟩
    .cases hd
   .cases hd
  obtain⟨j,i,g⟩:=o;split at h
  .injection h with h;subst h
   exact⟨j,i,g,Q7 _,Q7 _,Q7 _,Q7 _,Q7 _,Q7 _,.inr (.inl ⟨rfl,rfl,rfl⟩),fun _=>⟨rfl,rfl⟩⟩
  .split at h
   .split at h
    .cases h
    .rename_i k hk;obtain⟨c,a,b,f⟩:=zl3 hk;split at h
     .injection h with h;subst h
      exact⟨j,i,g,c,a,b,f,Q7 _,Q7 _,.inl ⟨rfl,rfl⟩,fun _=>⟨rfl,rfl⟩⟩
     .split at h
      .rename_i z hz;obtain⟨n,l⟩:=zxl hz;split at h
       .injection h with h;subst h
        exact⟨j,i,g,c,a,b,f,n,l,.inl ⟨rfl,rfl⟩,fun e=>absurd e (zq6 hz)⟩
       .cases h
      .cases h
   .cases h
theorem zrd {x:U7} (h:MoOk x):rngB x.date x.y x.m x.d x.h x.mi x.c (decide (23<x.zh) || decide (59<x.zm))=okR x:=by
 unfold rngB okR Cal.vld;have g:decide ((0:Int)<=(x.y:Int))=true:=by simp
 have a:decide ((x.y:Int)<=9999)=true:=by have:=h.y;simp;omega
 rw[g,a];have f:decide ((x.h:Int)<=23)=decide (x.h<=23):=by rw[Y1];simp;omega
 have i:decide ((x.mi:Int)<=59)=decide (x.mi<=59):=by rw[Y1];simp;omega
 have b:decide ((x.c:Int)<=59)=decide (x.c<=59):=by rw[Y1];simp;omega
 have e:(!(decide (23<x.zh) || decide (59<x.zm)))=(decide (x.zh<=23) && decide (x.zm<=59)):=by rw[Y1];simp
 rw[f,i,b,e];cases x.date<;>simp[Bool.and_assoc,Bool.and_comm,Bool.and_left_comm]
theorem zre {x:U7} (_h:MoOk x) (hr:okR x=true) (hd:x.date=true):Cal.vld x.y x.m x.d=true/\-63000000000<=secs x/\secs x<=260000000000/\-1000000<=offS x/\offS x<=1000000:=by
 unfold okR at hr;rw[hd]at hr;simp only[Bool.not_true,Bool.false_or,K6,qqv]at hr;obtain⟨⟨⟨⟨⟨a,h1⟩,h2⟩,h3⟩,h4⟩,h5⟩:=hr;have hb:=Cal.z0h a;have b:-1000000<=offS x/\offS x<=1000000:=by unfold offS;split<;>omega
 refine⟨a,?_,?_,b⟩
 .unfold secs;omega
 .unfold secs;omega
def RIPost (r:K2×Nat) (w:World) (e:Ending) (w':World):Prop:=e=.returned (.tuple #[.string ⟨r.1.toArray⟩,.int .i64 (r.2:Nat)])/\Below w.heap.size w w'
theorem zze {n _nanos:Int} {y m d:Int} (hv:Cal.vld y m d=true) (hn:Cal.num y m d=(n+62167219200) /86400-719528):∃a b c:Nat,y=a/\m=b/\d=c/\a<=999999999/\b<=999999999/\c<=999999999/\dateOf (n /86400)=(a,b,c):=by
 have h:=Cal.zqg hv;have hd:=Cal.zy1 y m;refine⟨y.toNat,m.toNat,d.toNat,by omega,by omega,by omega,by omega,by omega,by omega,?_⟩;apply zja
 .rw[show((y.toNat:Nat):Int)=y from by omega,show((m.toNat:Nat):Int)=m from by omega,show((d.toNat:Nat):Int)=d from by omega];exact hv
 .rw[show((y.toNat:Nat):Int)=y from by omega,show((m.toNat:Nat):Int)=m from by omega,show((d.toNat:Nat):Int)=d from by omega,hn];omega
theorem ofshow (n:Int) (nanos:Nat) (_h0:-62167219200<=n) (_h1:n<=253402300799) (hn:nanos<=999999999) (w:World) (e:Ending) (w':World) (h:OfPost (n+62167219200) (nanos:Int) w e w'):
 ∃a b c p q r:Nat,e=.returned (.agg #[.bool true,.bool true,.bool true,.int .i64 (a:Int),.int .i64 (b:Int),.int .i64 (c:Int),.int .i64 (p:Int),.int .i64 (q:Int),.int .i64 (r:Int),.int .i64 (nanos:Int),.int .i64 0,.bool false])/\Below w.heap.size w w'/\
 (∀W,Calls prog 159 #[.agg #[.bool true,.bool true,.bool true,.int .i64 (a:Int),.int .i64 (b:Int),.int .i64 (c:Int),.int .i64 (p:Int),.int .i64 (q:Int),.int .i64 (r:Int),.int .i64 (nanos:Int),.int .i64 0,.bool false]] W fun e W'=>e=.returned (.string ⟨(momS (n /86400) (n%86400).toNat nanos).toArray⟩)/\Below W.heap.size W W'):=by
 obtain⟨y,m,d,s,f,k,o⟩:=h;obtain⟨a,b,c,rfl,rfl,rfl,l,i,j,g⟩:=zze (_nanos:=nanos) s f;refine⟨a,b,c,(n%86400).toNat /3600,(n%86400).toNat /60%60,(n%86400).toNat%60,?_,o,fun W=>?_⟩
 .rw[k,show(n+62167219200)%86400 /3600=(((n%86400).toNat /3600:Nat):Int)from by omega,show(n+62167219200)%86400 /60%60=(((n%86400).toNat /60%60:Nat):Int)from by omega,show(n+62167219200)%86400%60=(((n%86400).toNat%60:Nat):Int)from by omega]
 .have:=zrb a b c ((n%86400).toNat /3600) ((n%86400).toNat /60%60) ((n%86400).toNat%60) nanos 0 false l i j (by omega) (by omega) (by omega) hn W;rw[show momS (n /86400) (n%86400).toNat nanos=dateS a b c++[84]++clkS ((n%86400).toNat /3600) ((n%86400).toNat /60%60) ((n%86400).toNat%60) nanos++[90]from by unfold momS;rw[g];simp];exact this
theorem zen (s:K2) (hl:s.length<=1073741823) (w:World):
 Calls prog 156 #[.string ⟨s.toArray⟩] w (RIPost (insP s) w):=by
 have J:=hid (fun W=>zde s hl W);have ar:Hid (insP s=insP s):=hid rfl;obtain⟨r,Q⟩:=ex (insP s)
 have HR:=hid Q;rw[Q];clear Q ar;have Y:Hid (insP s=match Y8 s with|none=>([],3)|some x=>if x.z=0 then([],3)else if okR x=false then([],13)else if secs x< -62167219200\/253402300800<=secs x then([],13)else(momS (secs x /86400) (secs x%86400).toNat x.nanos,0)):=hid rfl;cases hrd:Y8 s with
 |none=>
  have P:Hid (r=([],3)):=hid (by rw[<-HR.out,Y.out,hrd]);have H:=hid hrd;clear hrd;go_enter func156,ntmps156;go_wp2_with fail;refine(J.out _).mono ?_;rintro e E ⟨⟨t0,t1,t2,t3,t4,t5,t6,t7,t8,t9,t10,t11⟩,ok,rfl,i,o⟩;rw[H.out]at o;simp only at o;subst o;have g:=hid i;clear i;simp only[W7];go_wp2;go_ret2;rw[P.out];exact⟨rfl,g.out.alloc g.out.size _⟩
 |some x=>
  have k:=zrc hrd;have HOK:=hid k;have H:=hid hrd;have S:=zrd k;have HZ:Hid (decide (x.z≠0)=!decide (x.z=0)):=hid (by simp);by_cases hz:x.z=0
  .have P:Hid (r=([],3)):=hid (by rw[<-HR.out,Y.out,hrd];simp only;rw[if_pos hz]);have N:decide (x.z≠0)=false:=by simp[hz]
   have O:=hid N;clear hrd k S hz N;go_enter func156,ntmps156;go_wp2_with fail;refine(J.out _).mono ?_;rintro e E ⟨t,ok,rfl,i,o⟩;rw[H.out]at o;simp only at o;obtain⟨rfl,rfl⟩:=o;have g:=hid i;clear i;simp only[W7,toRT,O.out];go_wp2;go_ret2;rw[P.out];exact⟨rfl,g.out.alloc g.out.size _⟩
  .have N:decide (x.z≠0)=true:=by simp[hz]
   have R:x.date=true/\x.time=true:=by
    rcases k.sh with h|⟨_,_,h⟩|⟨_,_,h⟩
    .exact h
    .exact absurd h hz
    .exact absurd h hz
   have O:=hid N;have D:=hid R;obtain⟨I,ab⟩:=ex (decide (23<x.zh) || decide (59<x.zm))
   obtain⟨of,T⟩:=ex (offS x)
   have F:=hid (And.intro ab T);rw[R.1,ab]at S;have L:Hid (∀W,Calls prog 158 #[.agg #[.bool true,.bool true,.bool true,.int .i64 (x.y:Int),.int .i64 (x.m:Int),.int .i64 (x.d:Int),.int .i64 (x.h:Int),.int .i64 (x.mi:Int),.int .i64 (x.c:Int),.int .i64 (x.nanos:Int),.int .i64 of,.bool I]] W fun e w'=>e=.returned (.bool (okR x))/\Below W.heap.size W w'):=hid (fun W=>by
    have:=zem true true true (x.y:Int) (x.m:Int) (x.d:Int) (x.h:Int) (x.mi:Int) (x.c:Int) (x.nanos:Int) of I W;rwa[S]at this)
   by_cases Q:okR x=false
   .have P:Hid (r=([],13)):=hid (by rw[<-HR.out,Y.out,hrd];simp only;rw[if_neg hz,if_pos Q]);rw[Q]at L;clear hrd k S hz N R ab T Q;go_enter func156,ntmps156;go_wp2_with fail;refine(J.out _).mono ?_;rintro e E ⟨t,ok,rfl,i,o⟩;rw[H.out]at o;simp only at o;obtain⟨rfl,rfl⟩:=o;have g:=hid i;clear i;simp only[W7,toRT,O.out,D.out.1,D.out.2,F.out.1,F.out.2];go_wp2_with fail;refine(L.out _).mono ?_;rintro e K ⟨rfl,j⟩;have f:Hid (Below w.heap.size w K):=hid ((g.out.alloc g.out.size _).trans (j.mono (by have:=g.out.size;simp;omega)));clear j;go_wp2;go_ret2;rw[P.out];exact⟨rfl,f.out⟩
   .rw[F0]at Q;rw[Q]at L;obtain⟨hv,av,aq,ad,ae⟩:=zre k Q R.1;have am:=Cal.zqg hv;have an:=Cal.zy1 x.y x.m;rw[T]at ad ae;have ah:86400*Cal.num x.y x.m x.d+3600*(x.h:Int)+60*(x.mi:Int)+(x.c:Int)-of=secs x:=by unfold secs;rw[T];omega
    have aa:Hid (∀W,Calls prog 182 #[.agg #[.bool true,.bool true,.bool true,.int .i64 (x.y:Int),.int .i64 (x.m:Int),.int .i64 (x.d:Int),.int .i64 (x.h:Int),.int .i64 (x.mi:Int),.int .i64 (x.c:Int),.int .i64 (x.nanos:Int),.int .i64 of,.bool I]] W fun e w'=>e=.returned (.int .i64 (secs x))/\Below W.heap.size W w'):=hid (fun W=>by
     have h1:=k.h;have h2:=k.mi;have h3:=k.c;have:=zjl true true true (x.y:Int) (x.m:Int) (x.d:Int) (x.h:Int) (x.mi:Int) (x.c:Int) (x.nanos:Int) of I (by omega) (by omega) (by omega) (by omega) (by omega) (by omega) (by omega) (by omega) (by omega) (by omega) (by omega) (by omega) ad ae W;rwa[ah]at this)
    have ap:=k.nanos;obtain⟨n,hn⟩:=ex (secs x)
    rw[hn]at aa av aq;have HN:=hid hn;have A:Hid (r=if n< -62167219200\/253402300800<=n then([],13)else(momS (n /86400) (n%86400).toNat x.nanos,0)):=hid (by rw[<-HR.out,Y.out,hrd];simp only;rw[if_neg hz,if_neg (by rw[Q];decide),hn]);have aj:Hid (∀W,-62167219200<=n->n<=253402300799->Calls prog 183 #[.int .i64 n,.int .i64 (x.nanos:Int)] W (OfPost (n+62167219200) (x.nanos:Int) W)):=hid (fun W a b=>zxk n (n+62167219200) (x.nanos:Int) (by omega) (by omega) (by omega) W);clear hrd k S hz N R ab T Q hv am an ad ae ah hn Y;by_cases h1:n< -62167219200
    .have P:Hid (r=([],13)):=hid (by rw[A.out,if_pos (.inl h1)]);clear A;go_enter func156,ntmps156;go_wp2_with fail;refine(J.out _).mono ?_;rintro e E ⟨t,ok,rfl,i,o⟩;rw[H.out]at o;simp only at o;obtain⟨rfl,rfl⟩:=o;have g:=hid i;clear i;simp only[W7,toRT,O.out,D.out.1,D.out.2,F.out.1,F.out.2];go_wp2_with fail;refine(L.out _).mono ?_;rintro e K ⟨rfl,j⟩;have f:Hid (Blk K E.heap.size 164 (T12 true true true (x.y:Int) (x.m:Int) (x.d:Int) (x.h:Int) (x.mi:Int) (x.c:Int) (x.nanos:Int) of I)/\Below w.heap.size w K/\E.heap.size<K.heap.size):=hid (by
      have C:=Q4 E 164 (T12 true true true (x.y:Int) (x.m:Int) (x.d:Int) (x.h:Int) (x.mi:Int) (x.c:Int) (x.nanos:Int) of I);exact⟨C.below j C.lt,(g.out.alloc g.out.size _).trans (j.mono (by have:=g.out.size;simp;omega)),by have:=j.size;simp at this;omega⟩)
     clear j;obtain⟨g4,B⟩:=ex E.heap.size
     rw[B]at f ⊢;clear B;obtain⟨q0,q1,q2,q3,q4,q5,q6,q7,q8,q9,U,X⟩:=zah f.out.1;go_wp2_with fail;refine(aa.out _).mono ?_;rintro e Z ⟨rfl,l⟩;have G:Hid (Blk Z g4 164 (T12 true true true (x.y:Int) (x.m:Int) (x.d:Int) (x.h:Int) (x.mi:Int) (x.c:Int) (x.nanos:Int) of I)/\Below w.heap.size w Z):=hid ⟨f.out.1.below l f.out.1.lt,f.out.2.1.trans (l.mono f.out.2.1.size)⟩;clear l q0 q1 q2 q3 q4 q5 q6 q7 q8 q9 U X;go_wp2;go_ret2;rw[P.out];exact⟨rfl,G.out.2⟩
    .by_cases h2:253402300799<n
     .have P:Hid (r=([],13)):=hid (by rw[A.out,if_pos (.inr (by omega))]);clear A;go_enter func156,ntmps156;go_wp2_with fail;refine(J.out _).mono ?_;rintro e E ⟨t,ok,rfl,i,o⟩;rw[H.out]at o;simp only at o;obtain⟨rfl,rfl⟩:=o;have g:=hid i;clear i;simp only[W7,toRT,O.out,D.out.1,D.out.2,F.out.1,F.out.2];go_wp2_with fail;refine(L.out _).mono ?_;rintro e K ⟨rfl,j⟩;have f:Hid (Blk K E.heap.size 164 (T12 true true true (x.y:Int) (x.m:Int) (x.d:Int) (x.h:Int) (x.mi:Int) (x.c:Int) (x.nanos:Int) of I)/\Below w.heap.size w K/\E.heap.size<K.heap.size):=hid (by
       have C:=Q4 E 164 (T12 true true true (x.y:Int) (x.m:Int) (x.d:Int) (x.h:Int) (x.mi:Int) (x.c:Int) (x.nanos:Int) of I);exact⟨C.below j C.lt,(g.out.alloc g.out.size _).trans (j.mono (by have:=g.out.size;simp;omega)),by have:=j.size;simp at this;omega⟩)
      clear j;obtain⟨g4,B⟩:=ex E.heap.size
      rw[B]at f ⊢;clear B;obtain⟨q0,q1,q2,q3,q4,q5,q6,q7,q8,q9,U,X⟩:=zah f.out.1;go_wp2_with fail;refine(aa.out _).mono ?_;rintro e Z ⟨rfl,l⟩;have G:Hid (Blk Z g4 164 (T12 true true true (x.y:Int) (x.m:Int) (x.d:Int) (x.h:Int) (x.mi:Int) (x.c:Int) (x.nanos:Int) of I)/\Below w.heap.size w Z):=hid ⟨f.out.1.below l f.out.1.lt,f.out.2.1.trans (l.mono f.out.2.1.size)⟩;clear l q0 q1 q2 q3 q4 q5 q6 q7 q8 q9 U X;go_wp2;go_ret2;rw[P.out];exact⟨rfl,G.out.2⟩
     .have P:Hid (r=(momS (n /86400) (n%86400).toNat x.nanos,0)):=hid (by rw[A.out,if_neg (by omega)]);have ai:=hid (fun W=>aj.out W (by omega) (by omega));have af:=hid (fun W e W' h=>ofshow n x.nanos (by omega) (by omega) ap W e W' h);obtain⟨M,hM⟩:=ex (momS (n /86400) (n%86400).toNat x.nanos)
      rw[hM]at P af;clear hM;clear A aj;go_enter func156,ntmps156;go_wp2_with fail;refine(J.out _).mono ?_;rintro e E ⟨t,ok,rfl,i,o⟩;rw[H.out]at o;simp only at o;obtain⟨rfl,rfl⟩:=o;have g:=hid i;clear i;simp only[W7,toRT,O.out,D.out.1,D.out.2,F.out.1,F.out.2];go_wp2_with fail;refine(L.out _).mono ?_;rintro e K ⟨rfl,j⟩;have f:Hid (Blk K E.heap.size 164 (T12 true true true (x.y:Int) (x.m:Int) (x.d:Int) (x.h:Int) (x.mi:Int) (x.c:Int) (x.nanos:Int) of I)/\Below w.heap.size w K/\E.heap.size<K.heap.size):=hid (by
       have C:=Q4 E 164 (T12 true true true (x.y:Int) (x.m:Int) (x.d:Int) (x.h:Int) (x.mi:Int) (x.c:Int) (x.nanos:Int) of I);exact⟨C.below j C.lt,(g.out.alloc g.out.size _).trans (j.mono (by have:=g.out.size;simp;omega)),by have:=j.size;simp at this;omega⟩)
      clear j;obtain⟨g4,B⟩:=ex E.heap.size
      rw[B]at f ⊢;clear B;obtain⟨q0,q1,q2,q3,q4,q5,q6,q7,q8,q9,U,X⟩:=zah f.out.1;go_wp2_with fail;refine(aa.out _).mono ?_;rintro e Z ⟨rfl,l⟩;have G:Hid (Blk Z g4 164 (T12 true true true (x.y:Int) (x.m:Int) (x.d:Int) (x.h:Int) (x.mi:Int) (x.c:Int) (x.nanos:Int) of I)/\Below w.heap.size w Z):=hid ⟨f.out.1.below l f.out.1.lt,f.out.2.1.trans (l.mono f.out.2.1.size)⟩;clear l q0 q1 q2 q3 q4 q5 q6 q7 q8 q9 U X;have q9:Z.cell? ⟨g4,9,none⟩=some (.int .i64 (x.nanos:Int)):=G.out.1.cell 9;go_wp2_with fail;refine(ai.out _).mono ?_;intro e w4 ac;obtain⟨a,b,c,p,q,u,rfl,ag,V⟩:=af.out _ _ _ ac;have al:Hid (Below w.heap.size w w4):=hid (G.out.2.trans (ag.mono G.out.2.size));have au:=hid V;clear ac ag V q9;go_wp2_with fail;refine(au.out _).mono ?_;rintro e w5 ⟨rfl,ak⟩;have ao:Hid (Below w.heap.size w w5):=hid (al.out.trans (ak.mono al.out.size));clear ak;go_wp2;go_ret2;rw[P.out];exact⟨rfl,ao.out⟩
theorem zxm {x:U7} (h:MoOk x) (_hz:x.z=0) (of:Int) (lt:Bool) (W:World):
 Calls prog 159 #[.agg #[.bool x.date,.bool x.time,.bool false,.int .i64 (x.y:Int),.int .i64 (x.m:Int),.int .i64 (x.d:Int),.int .i64 (x.h:Int),.int .i64 (x.mi:Int),.int .i64 (x.c:Int),.int .i64 (x.nanos:Int),.int .i64 of,.bool lt]] W fun e W'=>e=.returned (.string ⟨(locS x).toArray⟩)/\Below W.heap.size W W':=by
 have a:=h.y;have b:=h.m;have c:=h.d;have d:=h.h;have e:=h.mi;have f:=h.c;have g:=h.nanos;rcases h.sh with⟨i,j⟩|⟨i,j,_⟩|⟨i,j,_⟩
 .have:=zra x.y x.m x.d x.h x.mi x.c x.nanos of lt (by omega) (by omega) (by omega) (by omega) (by omega) (by omega) g W;unfold locS;rw[i,j];simpa using this
 .have:=zq8 x.y x.m x.d x.h x.mi x.c x.nanos of lt (by omega) (by omega) (by omega) (by omega) (by omega) (by omega) g W;unfold locS;rw[i,j];simpa using this
 .have:=zq9 x.y x.m x.d x.h x.mi x.c x.nanos of lt (by omega) (by omega) (by omega) (by omega) (by omega) (by omega) g W;unfold locS;rw[i,j];simpa using this
theorem zgc (s:K2) (hl:s.length<=1073741823) (w:World):
 Calls prog 126 #[.string ⟨s.toArray⟩] w (RIPost (locP s) w):=by
 have B:=hid (fun W=>zde s hl W);obtain⟨r,T⟩:=ex (locP s)
 have U:=hid T;rw[T];clear T;have n:Hid (locP s=match Y8 s with|none=>([],3)|some x=>if x.z≠0 then([],3)else if okR x=false then([],13)else(locS x,0)):=hid rfl;cases hrd:Y8 s with
 |none=>
  have I:Hid (r=([],3)):=hid (by rw[<-U.out,n.out,hrd]);have l:=hid hrd;clear hrd;go_enter func126,ntmps126;go_wp2_with fail;refine(B.out _).mono ?_;rintro e J ⟨⟨t0,t1,t2,t3,t4,t5,t6,t7,t8,t9,t10,t11⟩,Y,rfl,b,g⟩;rw[l.out]at g;simp only at g;subst g;have a:=hid b;clear b;simp only[W7];go_wp2;go_ret2;rw[I.out];exact⟨rfl,a.out.alloc a.out.size _⟩
 |some x=>
  have o:=zrc hrd;have l:=hid hrd;have u:=zrd o;by_cases hz:x.z=0
  .have k:decide (x.z≠0)=false:=by simp[hz]
   have q:=hid k;obtain⟨K,H⟩:=ex (decide (23<x.zh) || decide (59<x.zm))
   obtain⟨of,O⟩:=ex (offS x)
   obtain⟨R,p⟩:=ex x.date
   obtain⟨Q,G⟩:=ex x.time
   have C:=hid (And.intro H O);have A:=hid (And.intro p G);rw[p,H]at u;have E:Hid (∀W,Calls prog 158 #[.agg #[.bool R,.bool Q,.bool false,.int .i64 (x.y:Int),.int .i64 (x.m:Int),.int .i64 (x.d:Int),.int .i64 (x.h:Int),.int .i64 (x.mi:Int),.int .i64 (x.c:Int),.int .i64 (x.nanos:Int),.int .i64 of,.bool K]] W fun e w'=>e=.returned (.bool (okR x))/\Below W.heap.size W w'):=hid (fun W=>by
    have:=zem R Q false (x.y:Int) (x.m:Int) (x.d:Int) (x.h:Int) (x.mi:Int) (x.c:Int) (x.nanos:Int) of K W;rwa[u]at this)
   have F:=hid (fun W=>zxm o hz of K W);rw[p,G]at F;have f:Hid (r=if okR x=false then([],13)else(locS x,0)):=hid (by rw[<-U.out,n.out,hrd];simp only;rw[if_neg (by simp[hz])]);obtain⟨M,hM⟩:=ex (locS x)
   rw[hM]at f F;obtain⟨V,D⟩:=ex (okR x)
   rw[D]at f E;clear hrd o u hz k p H O G hM D n;cases V with
   |false=>
    have I:Hid (r=([],13)):=hid (by rw[f.out,if_pos rfl]);clear f;go_enter func126,ntmps126;go_wp2_with fail;refine(B.out _).mono ?_;rintro e J ⟨t,Y,rfl,b,g⟩;rw[l.out]at g;simp only at g;obtain⟨rfl,rfl⟩:=g;have a:=hid b;clear b;simp only[W7,toRT,q.out,A.out.1,A.out.2,C.out.1,C.out.2];go_wp2_with fail;refine(E.out _).mono ?_;rintro e S ⟨rfl,j⟩;have i:Hid (Below w.heap.size w S):=hid ((a.out.alloc a.out.size _).trans (j.mono (by have:=a.out.size;simp;omega)));clear j;go_wp2;go_ret2;rw[I.out];exact⟨rfl,i.out⟩
   |true=>
    have I:Hid (r=(M,0)):=hid (by rw[f.out,if_neg (by decide)]);clear f;go_enter func126,ntmps126;go_wp2_with fail;refine(B.out _).mono ?_;rintro e J ⟨t,Y,rfl,b,g⟩;rw[l.out]at g;simp only at g;obtain⟨rfl,rfl⟩:=g;have a:=hid b;clear b;simp only[W7,toRT,q.out,A.out.1,A.out.2,C.out.1,C.out.2];go_wp2_with fail;refine(E.out _).mono ?_;rintro e S ⟨rfl,j⟩;have i:Hid (Blk S J.heap.size 164 (T12 R Q false (x.y:Int) (x.m:Int) (x.d:Int) (x.h:Int) (x.mi:Int) (x.c:Int) (x.nanos:Int) of K)/\Below w.heap.size w S):=hid (by
     have N:=Q4 J 164 (T12 R Q false (x.y:Int) (x.m:Int) (x.d:Int) (x.h:Int) (x.mi:Int) (x.c:Int) (x.nanos:Int) of K);exact⟨N.below j N.lt,(a.out.alloc a.out.size _).trans (j.mono (by have:=a.out.size;simp;omega))⟩)
    clear j;obtain⟨g4,L⟩:=ex J.heap.size
    rw[L]at i ⊢;clear L;obtain⟨q0,q1,q2,q3,q4,q5,q6,q7,q8,q9,Z,X⟩:=zah i.out.1;go_wp2_with fail;refine(F.out _).mono ?_;rintro e w3 ⟨rfl,P⟩;have aa:Hid (Below w.heap.size w w3):=hid (i.out.2.trans (P.mono i.out.2.size));clear P q0 q1 q2 q3 q4 q5 q6 q7 q8 q9 Z X;go_wp2;go_ret2;rw[I.out];exact⟨rfl,aa.out⟩
  .have I:Hid (r=([],3)):=hid (by rw[<-U.out,n.out,hrd];simp only;rw[if_pos hz]);have k:decide (x.z≠0)=true:=by simp[hz]
   have q:=hid k;clear hrd o u hz k n;go_enter func126,ntmps126;go_wp2_with fail;refine(B.out _).mono ?_;rintro e J ⟨t,Y,rfl,b,g⟩;rw[l.out]at g;simp only at g;obtain⟨rfl,rfl⟩:=g;have a:=hid b;clear b;simp only[W7,toRT,q.out];go_wp2;go_ret2;rw[I.out];exact⟨rfl,a.out.alloc a.out.size _⟩
theorem znn (s:K2) (hl:s.length<=1073741823) (w:World):
 Calls prog 96 #[.string ⟨s.toArray⟩] w fun e w'=>e=.returned (.bool (locB s))/\Below w.heap.size w w':=by
 have d:=hid (zgc s hl w);have f:Hid (locB s=decide ((locP s).2=0/\(locP s).1=s)):=hid rfl;obtain⟨r,m⟩:=ex (locB s)
 rw[m]at f ⊢;obtain⟨⟨l,k⟩,o⟩:∃p,locP s=p:=⟨_,rfl⟩
 rw[o]at d f;obtain⟨h,c⟩:∃h:Int,(k:Int)=h:=⟨_,rfl⟩
 unfold RIPost at d;simp only[c]at d f;have q:=hid c;clear m o c;by_cases h0:h=0
 .subst h0;have i:((0:Int)==0)=true:=rfl;by_cases hs:l=s
  .have j:(l==s)=true:=by rw[qkq];exact hs
   have g:Hid (r=true):=hid (by rw[f.out];simp[hs];have:=q.out;omega);clear hs;go_enter func96,ntmps96;go_wp2_with fail;refine d.out.mono ?_;rintro e n ⟨rfl,a⟩;have b:=hid a;clear a;go_wp2;go_ret;rw[g.out];exact⟨rfl,b.out⟩
  .have j:(l==s)=false:=by rw[qqq];exact hs
   have g:Hid (r=false):=hid (by rw[f.out];simp[hs]);clear hs;go_enter func96,ntmps96;go_wp2_with fail;refine d.out.mono ?_;rintro e n ⟨rfl,a⟩;have b:=hid a;clear a;go_wp2;go_ret;rw[g.out];exact⟨rfl,b.out⟩
 .have i:(h==0)=false:=by simpa using h0
  have g:Hid (r=false):=hid (by rw[f.out];simp;intro e;exact absurd (by have:=q.out;omega) h0);go_enter func96,ntmps96;go_wp2_with fail;refine d.out.mono ?_;rintro e n ⟨rfl,a⟩;have b:=hid a;clear a;go_wp2;go_ret;rw[g.out];exact⟨rfl,b.out⟩
def zdt (b:Bool) (w:World) (e:Ending) (w':World):Prop:=∃t:RT,e=.returned (.tuple #[t.v,.bool b])/\Below w.heap.size w w'
theorem zno (s:K2) (hl:s.length<=1073741823) (w:World):
 Calls prog 125 #[.string ⟨s.toArray⟩] w (zdt (insB s) w):=by
 have R:=hid (fun W=>zen s hl W);have Y:=hid (fun W=>zde s hl W);have S:Hid (insB s=decide ((insP s).2=0/\(insP s).1=s)):=hid rfl;obtain⟨r,hr⟩:=ex (insB s)
 rw[hr]at S ⊢;obtain⟨⟨l,k⟩,hp⟩:∃p,insP s=p:=⟨_,rfl⟩
 rw[hp]at R S;obtain⟨y,G⟩:∃y:Int,(k:Int)=y:=⟨_,rfl⟩
 unfold RIPost at R;simp only[G]at R S;have HK:=hid G;clear hr hp G;have hc:y≠0\/(y=0/\l≠s)\/(y=0/\l=s):=by
  by_cases h0:y=0
  .by_cases hs:l=s
   .exact .inr (.inr ⟨h0,hs⟩)
   .exact .inr (.inl ⟨h0,hs⟩)
  .exact .inl h0
 rcases hc with h0|⟨rfl,hs⟩|⟨rfl,hs⟩
 .have Z:(y==0)=false:=by simpa using h0
  have h0c:(y != 0)=true:=by rw[bne,Z];rfl
  have T:Hid (r=false):=hid (by rw[S.out];simp;intro e;exact absurd (by have:=HK.out;omega) h0);go_enter func125,ntmps125;go_upto_region 1 with fail;obtain⟨a,d⟩:=ex w.heap.size
  obtain⟨n,f⟩:∃n,n=w.alloc (.cells #[.bool false,.bool false,.bool false,.int .i64 0,.int .i64 0,.int .i64 0,.int .i64 0,.int .i64 0,.int .i64 0,.int .i64 0,.int .i64 0,.bool false] 164):=⟨_,rfl⟩
  have b:Hid (Blk n a 164 (T12 false false false 0 0 0 0 0 0 0 0 false)/\Below a w n):=hid (by rw[f,<-d];exact⟨Q4 _ _ _,(K1 _ _).alloc (K4 _) _⟩);have q:=hid d;(try rw[<-f]);(try rw[d]);clear f d;go_wp2_with fail;refine(R.out _).mono ?_;rintro e h ⟨rfl,g⟩;have c:Hid (Blk h a 164 (T12 false false false 0 0 0 0 0 0 0 0 false)/\Below a w h):=hid ⟨b.out.1.below g b.out.1.lt,b.out.2.trans (g.mono (Q6 b.out.1.lt))⟩;clear g;have xb:∀j,h.cell? ⟨a,j,none⟩=(#[.bool false,.bool false,.bool false,.int .i64 0,.int .i64 0,.int .i64 0,.int .i64 0,.int .i64 0,.int .i64 0,.int .i64 0,.int .i64 0,.bool false]:Array Value)[j]? :=fun j=>c.out.1.cell j
  have xf:∀j,h.frozen? ⟨a,j,none⟩=false:=c.out.1.frozen;go_wp2_with fail;have o:Blk ((((((((((((h.setCell ⟨a,0,none⟩ (.bool false)).setCell ⟨a,1,none⟩ (.bool false)).setCell ⟨a,2,none⟩ (.bool false)).setCell ⟨a,3,none⟩ (.int .i64 0)).setCell ⟨a,4,none⟩ (.int .i64 0)).setCell ⟨a,5,none⟩ (.int .i64 0)).setCell ⟨a,6,none⟩ (.int .i64 0)).setCell ⟨a,7,none⟩ (.int .i64 0)).setCell ⟨a,8,none⟩ (.int .i64 0)).setCell ⟨a,9,none⟩ (.int .i64 0)).setCell ⟨a,10,none⟩ (.int .i64 0)).setCell ⟨a,11,none⟩ (.bool false)) a 164 (T12 false false false 0 0 0 0 0 0 0 0 false):=zbf c.out.1;have t:Below a w ((((((((((((h.setCell ⟨a,0,none⟩ (.bool false)).setCell ⟨a,1,none⟩ (.bool false)).setCell ⟨a,2,none⟩ (.bool false)).setCell ⟨a,3,none⟩ (.int .i64 0)).setCell ⟨a,4,none⟩ (.int .i64 0)).setCell ⟨a,5,none⟩ (.int .i64 0)).setCell ⟨a,6,none⟩ (.int .i64 0)).setCell ⟨a,7,none⟩ (.int .i64 0)).setCell ⟨a,8,none⟩ (.int .i64 0)).setCell ⟨a,9,none⟩ (.int .i64 0)).setCell ⟨a,10,none⟩ (.int .i64 0)).setCell ⟨a,11,none⟩ (.bool false)):=zce c.out.2 (K4 a);obtain⟨e0,e1,e2,e3,e4,e5,e6,e7,e8,e9,U,V⟩:=zah o;refine J1 (v:=.tuple #[.agg #[.bool false,.bool false,.bool false,.int .i64 0,.int .i64 0,.int .i64 0,.int .i64 0,.int .i64 0,.int .i64 0,.int .i64 0,.int .i64 0,.bool false],.bool false]) (by rw[J2 rfl];go_simp) rfl ?_;unfold zdt;rw[q.out,T.out];exact⟨RT.z,rfl,t⟩
 .have I:(l==s)=false:=by rw[qqq];exact hs
  have aa:(l != s)=true:=by rw[bne,I];rfl
  have T:Hid (r=false):=hid (by rw[S.out];simp[hs]);clear hs;go_enter func125,ntmps125;go_upto_region 1 with fail;obtain⟨a,d⟩:=ex w.heap.size
  obtain⟨n,f⟩:∃n,n=w.alloc (.cells #[.bool false,.bool false,.bool false,.int .i64 0,.int .i64 0,.int .i64 0,.int .i64 0,.int .i64 0,.int .i64 0,.int .i64 0,.int .i64 0,.bool false] 164):=⟨_,rfl⟩
  have b:Hid (Blk n a 164 (T12 false false false 0 0 0 0 0 0 0 0 false)/\Below a w n):=hid (by rw[f,<-d];exact⟨Q4 _ _ _,(K1 _ _).alloc (K4 _) _⟩);have q:=hid d;(try rw[<-f]);(try rw[d]);clear f d;go_wp2_with fail;refine(R.out _).mono ?_;rintro e h ⟨rfl,g⟩;have c:Hid (Blk h a 164 (T12 false false false 0 0 0 0 0 0 0 0 false)/\Below a w h):=hid ⟨b.out.1.below g b.out.1.lt,b.out.2.trans (g.mono (Q6 b.out.1.lt))⟩;clear g;have xb:∀j,h.cell? ⟨a,j,none⟩=(#[.bool false,.bool false,.bool false,.int .i64 0,.int .i64 0,.int .i64 0,.int .i64 0,.int .i64 0,.int .i64 0,.int .i64 0,.int .i64 0,.bool false]:Array Value)[j]? :=fun j=>c.out.1.cell j
  have xf:∀j,h.frozen? ⟨a,j,none⟩=false:=c.out.1.frozen;go_wp2_with fail;have o:Blk ((((((((((((h.setCell ⟨a,0,none⟩ (.bool false)).setCell ⟨a,1,none⟩ (.bool false)).setCell ⟨a,2,none⟩ (.bool false)).setCell ⟨a,3,none⟩ (.int .i64 0)).setCell ⟨a,4,none⟩ (.int .i64 0)).setCell ⟨a,5,none⟩ (.int .i64 0)).setCell ⟨a,6,none⟩ (.int .i64 0)).setCell ⟨a,7,none⟩ (.int .i64 0)).setCell ⟨a,8,none⟩ (.int .i64 0)).setCell ⟨a,9,none⟩ (.int .i64 0)).setCell ⟨a,10,none⟩ (.int .i64 0)).setCell ⟨a,11,none⟩ (.bool false)) a 164 (T12 false false false 0 0 0 0 0 0 0 0 false):=zbf c.out.1;have t:Below a w ((((((((((((h.setCell ⟨a,0,none⟩ (.bool false)).setCell ⟨a,1,none⟩ (.bool false)).setCell ⟨a,2,none⟩ (.bool false)).setCell ⟨a,3,none⟩ (.int .i64 0)).setCell ⟨a,4,none⟩ (.int .i64 0)).setCell ⟨a,5,none⟩ (.int .i64 0)).setCell ⟨a,6,none⟩ (.int .i64 0)).setCell ⟨a,7,none⟩ (.int .i64 0)).setCell ⟨a,8,none⟩ (.int .i64 0)).setCell ⟨a,9,none⟩ (.int .i64 0)).setCell ⟨a,10,none⟩ (.int .i64 0)).setCell ⟨a,11,none⟩ (.bool false)):=zce c.out.2 (K4 a);obtain⟨e0,e1,e2,e3,e4,e5,e6,e7,e8,e9,U,V⟩:=zah o;refine J1 (v:=.tuple #[.agg #[.bool false,.bool false,.bool false,.int .i64 0,.int .i64 0,.int .i64 0,.int .i64 0,.int .i64 0,.int .i64 0,.int .i64 0,.int .i64 0,.bool false],.bool false]) (by rw[J2 rfl];go_simp) rfl ?_;unfold zdt;rw[q.out,T.out];exact⟨RT.z,rfl,t⟩
 .have I:(l==s)=true:=by rw[qkq];exact hs
  have aa:(l != s)=false:=by rw[bne,I];rfl
  have T:Hid (r=true):=hid (by rw[S.out];simp[hs];have:=HK.out;omega);clear hs;go_enter func125,ntmps125;go_upto_region 1 with fail;obtain⟨a,d⟩:=ex w.heap.size
  obtain⟨n,f⟩:∃n,n=w.alloc (.cells #[.bool false,.bool false,.bool false,.int .i64 0,.int .i64 0,.int .i64 0,.int .i64 0,.int .i64 0,.int .i64 0,.int .i64 0,.int .i64 0,.bool false] 164):=⟨_,rfl⟩
  have b:Hid (Blk n a 164 (T12 false false false 0 0 0 0 0 0 0 0 false)/\Below a w n):=hid (by rw[f,<-d];exact⟨Q4 _ _ _,(K1 _ _).alloc (K4 _) _⟩);have q:=hid d;(try rw[<-f]);(try rw[d]);clear f d;go_wp2_with fail;refine(R.out _).mono ?_;rintro e h ⟨rfl,g⟩;have c:Hid (Blk h a 164 (T12 false false false 0 0 0 0 0 0 0 0 false)/\Below a w h):=hid ⟨b.out.1.below g b.out.1.lt,b.out.2.trans (g.mono (Q6 b.out.1.lt))⟩;clear g;go_wp2_with fail;refine(Y.out _).mono ?_;rintro e X ⟨⟨J,P,A,F,M,D,K,E,H,O,m,i⟩,ok,rfl,N,_⟩;have L:Hid (Blk X a 164 (T12 false false false 0 0 0 0 0 0 0 0 false)/\Below a w X):=hid ⟨c.out.1.below N c.out.1.lt,c.out.2.trans (N.mono (Q6 c.out.1.lt))⟩;clear N;simp only[W7];go_upto_region 5 with fail;obtain⟨g6,C⟩:=ex X.heap.size
  obtain⟨u,B⟩:=ex (X.alloc (.cells #[.bool J,.bool P,.bool A,.int .i64 F,.int .i64 M,.int .i64 D,.int .i64 K,.int .i64 E,.int .i64 H,.int .i64 O,.int .i64 m,.bool i] 164))
  have Q:Hid (Blk u a 164 (T12 false false false 0 0 0 0 0 0 0 0 false)/\Below a w u/\Blk u g6 164 (T12 J P A F M D K E H O m i)):=hid (by rw[<-B,<-C];exact⟨L.out.1.alloc _,L.out.2.alloc (Q6 L.out.1.lt) _,Q4 _ _ _⟩);(try rw[B]);(try rw[C]);clear B C;obtain⟨q0,q1,q2,q3,q4,q5,q6,q7,q8,q9,q10,q11⟩:=zah Q.out.2.2;have x:Hid (Blk u a 164 (T12 false false false 0 0 0 0 0 0 0 0 false)/\Below a w u):=hid ⟨Q.out.1,Q.out.2.1⟩;have xb:∀j,u.cell? ⟨a,j,none⟩=(#[.bool false,.bool false,.bool false,.int .i64 0,.int .i64 0,.int .i64 0,.int .i64 0,.int .i64 0,.int .i64 0,.int .i64 0,.int .i64 0,.bool false]:Array Value)[j]? :=fun j=>x.out.1.cell j
  have xf:∀j,u.frozen? ⟨a,j,none⟩=false:=x.out.1.frozen;go_wp2_with fail;have o:Blk ((((((((((((u.setCell ⟨a,0,none⟩ (.bool J)).setCell ⟨a,1,none⟩ (.bool P)).setCell ⟨a,2,none⟩ (.bool A)).setCell ⟨a,3,none⟩ (.int .i64 F)).setCell ⟨a,4,none⟩ (.int .i64 M)).setCell ⟨a,5,none⟩ (.int .i64 D)).setCell ⟨a,6,none⟩ (.int .i64 K)).setCell ⟨a,7,none⟩ (.int .i64 E)).setCell ⟨a,8,none⟩ (.int .i64 H)).setCell ⟨a,9,none⟩ (.int .i64 O)).setCell ⟨a,10,none⟩ (.int .i64 m)).setCell ⟨a,11,none⟩ (.bool i)) a 164 (T12 J P A F M D K E H O m i):=zbf x.out.1;have t:Below a w ((((((((((((u.setCell ⟨a,0,none⟩ (.bool J)).setCell ⟨a,1,none⟩ (.bool P)).setCell ⟨a,2,none⟩ (.bool A)).setCell ⟨a,3,none⟩ (.int .i64 F)).setCell ⟨a,4,none⟩ (.int .i64 M)).setCell ⟨a,5,none⟩ (.int .i64 D)).setCell ⟨a,6,none⟩ (.int .i64 K)).setCell ⟨a,7,none⟩ (.int .i64 E)).setCell ⟨a,8,none⟩ (.int .i64 H)).setCell ⟨a,9,none⟩ (.int .i64 O)).setCell ⟨a,10,none⟩ (.int .i64 m)).setCell ⟨a,11,none⟩ (.bool i)):=zce x.out.2 (K4 a);obtain⟨e0,e1,e2,e3,e4,e5,e6,e7,e8,e9,U,V⟩:=zah o;refine J1 (v:=.tuple #[.agg #[.bool J,.bool P,.bool A,.int .i64 F,.int .i64 M,.int .i64 D,.int .i64 K,.int .i64 E,.int .i64 H,.int .i64 O,.int .i64 m,.bool i],.bool true]) (by rw[J2 rfl];go_simp) rfl ?_;unfold zdt;rw[q.out,T.out];exact⟨⟨J,P,A,F,M,D,K,E,H,O,m,i⟩,rfl,t⟩
theorem zjm (s:K2) (hl:s.length<=1073741823) (w:World):
 Calls prog 95 #[.string ⟨s.toArray⟩] w fun e w'=>e=.returned (.bool (insB s))/\Below w.heap.size w w':=by
 have d:=hid (zno s hl w);obtain⟨r,c⟩:=ex (insB s)
 rw[c]at d ⊢;clear c;go_enter func95,ntmps95;go_wp2_with fail;refine d.out.mono ?_;rintro e w1 ⟨⟨t0,t1,t2,t3,t4,t5,t6,t7,t8,t9,t10,t11⟩,rfl,b⟩;have a:=hid b;clear b;simp only[W7];go_wp2;go_ret;exact⟨rfl,a.out.alloc a.out.size _⟩
theorem zxn {s:K2} {a:Nat} {z:Gr.Zn} (h:zoneAt s a=some z):(z.z=90/\z.h=0/\z.m=0)\/z.z=43\/z.z=45:=by
 unfold zoneAt at h;split at h
 .grind
 .split at h
  .split at h
   .rename_i hb;injection h with h
    subst h;right;simp only[K6,U9]at hb;show s.getD a 0=43\/s.getD a 0=45;rcases hb.1 with h1|h1
    .unfold isAt at h1;have:=eq_of_beq h1;left;simp[K5,this]
    .unfold isAt at h1;have:=eq_of_beq h1;right;simp[K5,this]
   .cases h
  .cases h
theorem mo_z {s:K2} {x:U7} (h:Y8 s=some x):(x.z=0\/(x.z=90/\x.zh=0/\x.zm=0)\/x.z=43\/x.z=45)/\(x.time=false->x.nanos=0):=by
 unfold Y8 at h;split at h
 .grind
 .split at h
  .grind
  .split at h
   .split at h
    .cases h
    .split at h
     .grind
     .split at h
      .rename_i z hz;split at h
       .injection h with h;subst h;exact⟨.inr (zxn hz),fun e=>by cases e⟩
       .cases h
      .cases h
   .cases h
theorem zzf {x:U7} (h:MoOk x):decide (((moSh x:Nat):Int)=2)=!x.date:=by
 unfold moSh;rcases h.sh with⟨a,b⟩|⟨a,b,_⟩|⟨a,b,_⟩<;>rw[a,b]<;>decide
theorem zrf {x:U7} (h:MoOk x):prngB ((moSh x:Nat):Int) x.y x.m x.d x.h x.mi x.c x.zh x.zm=okR x:=by
 unfold prngB okR;rw[zzf h]
theorem psecs {x:U7} (hz:(x.z=90/\x.zh=0/\x.zm=0)\/x.z=43\/x.z=45):
 (if((x.z.toNat:Nat):Int)=43 then Cal.num x.y x.m x.d*86400+(x.h:Int)*3600+(x.mi:Int)*60+(x.c:Int)-((x.zh:Int)*3600+(x.zm:Int)*60)else Cal.num x.y x.m x.d*86400+(x.h:Int)*3600+(x.mi:Int)*60+(x.c:Int)+((x.zh:Int)*3600+(x.zm:Int)*60))=secs x:=by
 unfold secs offS;rcases hz with⟨h,h1,h2⟩|h|h
 .omega
 .rw[h,if_pos (by decide),if_neg (by decide)];omega
 .rw[h,if_neg (by decide),if_pos rfl];omega
theorem u8_z {z:UInt8} (h:z≠0):((z.toNat:Nat):Int)≠0:=by
 intro e;apply h;apply UInt8.toNat_inj.1;simpa using e
theorem zjn {s:K2} (hl:s.length<=1073741823) (h:Y8 s=none) (w:World):Calls Tryz.prog 58 #[.string ⟨s.toArray⟩] w fun e w'=>Below w.heap.size w w'/\∃(sh y m d h mi c zh zm n z:Nat),e=.returned (.tuple #[.agg #[.int .i64 (sh:Int),.int .i64 (y:Int),.int .i64 (m:Int),.int .i64 (d:Int),.int .i64 (h:Int),.int .i64 (mi:Int),.int .i64 (c:Int),.int .i64 (zh:Int),.int .i64 (zm:Int),.int .i64 (n:Int),.int .u8 (z:Int)],.bool false]):=by
 refine(zl1 s hl w).mono ?_;rintro e w' ⟨g,sh,f,a,z,b,_⟩;refine⟨g,sh,f 0,f 1,f 2,f 3,f 4,f 5,f 6,f 7,a,z,?_⟩;rw[b];unfold rdT;rw[h];rfl
theorem zft {s:K2} {x:U7} (hl:s.length<=1073741823) (h:Y8 s=some x) (w:World):Calls Tryz.prog 58 #[.string ⟨s.toArray⟩] w fun e w'=>e=.returned (.tuple #[.agg #[.int .i64 ((moSh x:Nat):Int),.int .i64 (x.y:Int),.int .i64 (x.m:Int),.int .i64 (x.d:Int),.int .i64 (x.h:Int),.int .i64 (x.mi:Int),.int .i64 (x.c:Int),.int .i64 (x.zh:Int),.int .i64 (x.zm:Int),.int .i64 (x.nanos:Int),.int .u8 ((x.z.toNat:Nat):Int)],.bool true])/\Below w.heap.size w w':=by
 refine(zl1 s hl w).mono ?_;rintro e w' ⟨i,sh,f,nn,z,b,g⟩;refine⟨?_,i⟩;have a:rdT s=some (moC x):=by unfold rdT;rw[h];rfl
 have j:=g _ a;rw[b,a,<-j];rfl
theorem zjo (s:K2) (hl:s.length<=1073741823) (w:World) (hT:UT w):Calls prog 45 #[.string ⟨s.toArray⟩] w (zdf (insP s) w):=by
 have HT:=hid hT;clear hT;obtain⟨r,F⟩:=ex (insP s)
 have Z:=hid F;rw[F];clear F;have L:Hid (insP s=match Y8 s with|none=>([],3)|some x=>if x.z=0 then([],3)else if okR x=false then([],13)else osP (secs x) x.nanos):=hid rfl;cases hrd:Y8 s with
 |none=>
  have J:Hid (r=([],3)):=hid (by rw[<-Z.out,L.out,hrd]);have u:=hid (fun W=>zjn hl hrd W);clear hrd;go_enter func45,ntmps45;go_wp2_with fail;refine(u.out _).mono ?_;rintro e T ⟨g,M,y,m,d,h,mi,c,zh,zm,n,z,rfl⟩;have H:=hid g;clear g;go_wp2;go_ret2;rw[J.out];exact⟨rfl,H.out.alloc H.out.size _⟩
 |some x=>
  have f:=zrc hrd;have D:=mo_z hrd;have N:=hid (fun W=>zft hl hrd W);have I:=zrf f;have G:=hid (fun W=>zfr ((moSh x:Nat):Int) x.y x.m x.d x.h x.mi x.c x.zh x.zm (x.nanos:Int) ((x.z.toNat:Nat):Int) W);rw[I]at G;obtain⟨M,A⟩:=ex (moSh x)
  obtain⟨C,l⟩:∃C:Int,((x.z.toNat:Nat):Int)=C:=⟨_,rfl⟩
  have t:=fun(hv:Cal.vld x.y x.m x.d=true) (h1:(x.z=90/\x.zh=0/\x.zm=0)\/x.z=43\/x.z=45) W=>zjk ((moSh x:Nat):Int) (x.y:Int) (x.m:Int) (x.d:Int) (x.h:Int) (x.mi:Int) (x.c:Int) (x.zh:Int) (x.zm:Int) (x.nanos:Int) ((x.z.toNat:Nat):Int) hv (by omega) (by have:=f.h;omega) (by omega) (by have:=f.mi;omega) (by omega) (by have:=f.c;omega) (by omega) (by have:=f.zh;omega) (by omega) (by have:=f.zm;omega) W
  have u:=N;have E:=G;rw[A,l]at u E;clear N G;have HZZ:=hid l;have HSH:=hid A;have HOK:=hid f;have HMZ:=hid D;by_cases hz:x.z=0
  .have J:Hid (r=([],3)):=hid (by rw[<-Z.out,L.out,hrd];simp only;rw[if_pos hz]);obtain rfl:0=C:=by rw[<-l,hz];rfl
   have hz0b:((0:Int)==0)=true:=rfl;clear hrd f D I A l hz t;go_enter func45,ntmps45;go_wp2_with fail;refine(u.out _).mono ?_;rintro e T ⟨rfl,g⟩;have H:=hid g;clear g;go_wp2;go_ret2;rw[J.out];exact⟨rfl,H.out.alloc H.out.size _⟩
  .have V:=u8_z hz;rw[l]at V;have hznb:(C==0)=false:=by simpa using V
   have K:=D.1.resolve_left hz;have P:x.date=true/\x.time=true:=by
    rcases f.sh with h|⟨_,_,h⟩|⟨_,_,h⟩
    .exact h
    .exact absurd h hz
    .exact absurd h hz
   cases F:okR x with
   |false=>
    have J:Hid (r=([],13)):=hid (by rw[<-Z.out,L.out,hrd];simp only;rw[if_neg hz,if_pos F]);rw[F]at E;clear hrd f D I A l hz F t P K;go_enter func45,ntmps45;go_wp2_with fail;refine(u.out _).mono ?_;rintro e T ⟨rfl,g⟩;go_upto_region 2 with fail;obtain⟨o,p⟩:=ex T.heap.size
    obtain⟨v,k⟩:∃v,v=T.alloc (.cells #[.int .i64 (M:Int),.int .i64 (x.y:Int),.int .i64 (x.m:Int),.int .i64 (x.d:Int),.int .i64 (x.h:Int),.int .i64 (x.mi:Int),.int .i64 (x.c:Int),.int .i64 (x.zh:Int),.int .i64 (x.zm:Int),.int .i64 (x.nanos:Int),.int .u8 C] 96):=⟨_,rfl⟩
    have i:Hid (Blk v o 96 #[.int .i64 (M:Int),.int .i64 (x.y:Int),.int .i64 (x.m:Int),.int .i64 (x.d:Int),.int .i64 (x.h:Int),.int .i64 (x.mi:Int),.int .i64 (x.c:Int),.int .i64 (x.zh:Int),.int .i64 (x.zm:Int),.int .i64 (x.nanos:Int),.int .u8 C]/\Below w.heap.size w v/\UT v):=hid (by
     have U:Below w.heap.size w v:=by rw[k];exact g.alloc g.size _
     exact⟨by rw[k,<-p];exact Q4 _ _ _,U,Q1 _ _ HT.out U⟩)
    (try rw[<-k]);(try rw[p]);clear k p g;obtain⟨q0,q1,q2,q3,q4,q5,q6,q7,q8,q9,S⟩:=zag i.out.1;go_wp2_with fail;refine(E.out _).mono ?_;rintro e b ⟨rfl,j⟩;have a:Hid (Blk b o 96 #[.int .i64 (M:Int),.int .i64 (x.y:Int),.int .i64 (x.m:Int),.int .i64 (x.d:Int),.int .i64 (x.h:Int),.int .i64 (x.mi:Int),.int .i64 (x.c:Int),.int .i64 (x.zh:Int),.int .i64 (x.zm:Int),.int .i64 (x.nanos:Int),.int .u8 C]/\Below w.heap.size w b/\UT b):=hid ⟨i.out.1.below j i.out.1.lt,i.out.2.1.trans (j.mono i.out.2.1.size),Q1 _ _ i.out.2.2 j⟩;clear j q0 q1 q2 q3 q4 q5 q6 q7 q8 q9 S;go_wp2;go_ret2;rw[J.out];exact⟨rfl,a.out.2.1⟩
   |true=>
    have J:Hid (r=osP (secs x) x.nanos):=hid (by rw[<-Z.out,L.out,hrd];simp only;rw[if_neg hz,if_neg (by rw[F];decide)]);rw[F]at E;obtain⟨hv,Y,X,_,_⟩:=zre f F P.1;have O:=hid (t hv K);rw[psecs K,A,l]at O;obtain⟨q,hq⟩:=ex (secs x)
    rw[hq]at O J Y X;have B:=hid (fun W hW=>zhw q x.nanos (x.nanos:Int) rfl f.nanos (by omega) (by omega) W hW);unfold zdf at B ⊢;obtain⟨⟨R1,R2⟩,hR⟩:∃R,osP q x.nanos=R:=⟨_,rfl⟩
    rw[hR]at B J;simp only at B;obtain⟨Ri,Q⟩:∃Ri:Int,(R2:Int)=Ri:=⟨_,rfl⟩
    rw[Q]at B;have ab:=hid Q;clear hrd f D I A l hz F t P K hv Y X hq hR Q;go_enter func45,ntmps45;go_wp2_with fail;refine(u.out _).mono ?_;rintro e T ⟨rfl,g⟩;go_upto_region 2 with fail;obtain⟨o,p⟩:=ex T.heap.size
    obtain⟨v,k⟩:∃v,v=T.alloc (.cells #[.int .i64 (M:Int),.int .i64 (x.y:Int),.int .i64 (x.m:Int),.int .i64 (x.d:Int),.int .i64 (x.h:Int),.int .i64 (x.mi:Int),.int .i64 (x.c:Int),.int .i64 (x.zh:Int),.int .i64 (x.zm:Int),.int .i64 (x.nanos:Int),.int .u8 C] 96):=⟨_,rfl⟩
    have i:Hid (Blk v o 96 #[.int .i64 (M:Int),.int .i64 (x.y:Int),.int .i64 (x.m:Int),.int .i64 (x.d:Int),.int .i64 (x.h:Int),.int .i64 (x.mi:Int),.int .i64 (x.c:Int),.int .i64 (x.zh:Int),.int .i64 (x.zm:Int),.int .i64 (x.nanos:Int),.int .u8 C]/\Below w.heap.size w v/\UT v):=hid (by
     have U:Below w.heap.size w v:=by rw[k];exact g.alloc g.size _
     exact⟨by rw[k,<-p];exact Q4 _ _ _,U,Q1 _ _ HT.out U⟩)
    (try rw[<-k]);(try rw[p]);clear k p g;obtain⟨q0,q1,q2,q3,q4,q5,q6,q7,q8,q9,S⟩:=zag i.out.1;go_wp2_with fail;refine(E.out _).mono ?_;rintro e b ⟨rfl,j⟩;have a:Hid (Blk b o 96 #[.int .i64 (M:Int),.int .i64 (x.y:Int),.int .i64 (x.m:Int),.int .i64 (x.d:Int),.int .i64 (x.h:Int),.int .i64 (x.mi:Int),.int .i64 (x.c:Int),.int .i64 (x.zh:Int),.int .i64 (x.zm:Int),.int .i64 (x.nanos:Int),.int .u8 C]/\Below w.heap.size w b/\UT b):=hid ⟨i.out.1.below j i.out.1.lt,i.out.2.1.trans (j.mono i.out.2.1.size),Q1 _ _ i.out.2.2 j⟩;clear j q0 q1 q2 q3 q4 q5 q6 q7 q8 q9 S;go_upto_region 6 with fail;have p0:∀W:WB b.heap.size b,W.w.cell? ⟨o,0,none⟩=some (.int .i64 (M:Int)):=fun W=>(a.out.1.below W.h a.out.1.lt).cell 0
    have p1:∀W:WB b.heap.size b,W.w.cell? ⟨o,1,none⟩=some (.int .i64 (x.y:Int)):=fun W=>(a.out.1.below W.h a.out.1.lt).cell 1
    have p2:∀W:WB b.heap.size b,W.w.cell? ⟨o,2,none⟩=some (.int .i64 (x.m:Int)):=fun W=>(a.out.1.below W.h a.out.1.lt).cell 2
    have p3:∀W:WB b.heap.size b,W.w.cell? ⟨o,3,none⟩=some (.int .i64 (x.d:Int)):=fun W=>(a.out.1.below W.h a.out.1.lt).cell 3
    have p4:∀W:WB b.heap.size b,W.w.cell? ⟨o,4,none⟩=some (.int .i64 (x.h:Int)):=fun W=>(a.out.1.below W.h a.out.1.lt).cell 4
    have p5:∀W:WB b.heap.size b,W.w.cell? ⟨o,5,none⟩=some (.int .i64 (x.mi:Int)):=fun W=>(a.out.1.below W.h a.out.1.lt).cell 5
    have p6:∀W:WB b.heap.size b,W.w.cell? ⟨o,6,none⟩=some (.int .i64 (x.c:Int)):=fun W=>(a.out.1.below W.h a.out.1.lt).cell 6
    have p7:∀W:WB b.heap.size b,W.w.cell? ⟨o,7,none⟩=some (.int .i64 (x.zh:Int)):=fun W=>(a.out.1.below W.h a.out.1.lt).cell 7
    have p8:∀W:WB b.heap.size b,W.w.cell? ⟨o,8,none⟩=some (.int .i64 (x.zm:Int)):=fun W=>(a.out.1.below W.h a.out.1.lt).cell 8
    have p9:∀W:WB b.heap.size b,W.w.cell? ⟨o,9,none⟩=some (.int .i64 (x.nanos:Int)):=fun W=>(a.out.1.below W.h a.out.1.lt).cell 9
    have aa:∀W:WB b.heap.size b,W.w.cell? ⟨o,10,none⟩=some (.int .u8 C):=fun W=>(a.out.1.below W.h a.out.1.lt).cell 10
    have ac:Hid (∀W:WB b.heap.size b,UT W.w):=hid (fun W=>Q1 _ _ a.out.2.2 W.h);refine zac b.heap.size b (by kernel_rfl) (by kernel_rfl) (K1 _ _) ?_
    iterate 9 (try go_big_quiet_step ((first| (with_reducible refine X3 ((O.out _).mono (fun _ _ ⟨e1,e2⟩=>⟨e1,(WB.h _).trans (e2.mono (WB.h _).size)⟩)))| (with_reducible refine X3 ((B.out _ (ac.out _)).mono (fun _ _ ⟨e1,e2⟩=>⟨e1,(WB.h _).trans (e2.mono (WB.h _).size)⟩))))))
    refine wpQuiet_nil ?_;rintro _ ⟨wz,rfl⟩;clear p0 p1 p2 p3 p4 p5 p6 p7 p8 p9 aa;go_wp2;go_ret2;rw[J.out];refine⟨?_,a.out.2.1.trans (wz.h.mono a.out.2.1.size)⟩;show _=Ending.returned (.tuple #[.string ⟨R1.toArray⟩,.int .i64 (R2:Int)]);rw[ab.out];rfl
theorem zrg {x:U7} (h:MoOk x) (hn:x.time=false->x.nanos=0) (zz:Int) (W:World) (hW:UT W):
 Calls prog 90 #[.agg #[.int .i64 ((moSh x:Nat):Int),.int .i64 (x.y:Int),.int .i64 (x.m:Int),.int .i64 (x.d:Int),.int .i64 (x.h:Int),.int .i64 (x.mi:Int),.int .i64 (x.c:Int),.int .i64 (x.zh:Int),.int .i64 (x.zm:Int),.int .i64 (x.nanos:Int),.int .u8 zz]] W fun e w'=>e=.returned (.string ⟨(locS x).toArray⟩)/\Below W.heap.size W w':=by
 have a:=h.y;have b:=h.m;have c:=h.d;have d:=h.h;have e:=h.mi;have f:=h.c;have g:=h.nanos;rcases h.sh with⟨j,i⟩|⟨j,i,_⟩|⟨j,i,_⟩
 .have:=zq7 x.y x.m x.d x.h x.mi x.c x.nanos (x.zh:Int) (x.zm:Int) zz (by omega) (by omega) (by omega) (by omega) (by omega) (by omega) g W hW;unfold locS moSh;rw[j,i];simpa using this
 .have:=zxi x.y x.m x.d x.h x.mi x.c x.nanos (x.zh:Int) (x.zm:Int) zz (by omega) (by omega) (by omega) (by omega) (by omega) (by omega) g (hn i) W hW;unfold locS moSh;rw[j,i];simpa using this
 .have:=zxj x.y x.m x.d x.h x.mi x.c x.nanos (x.zh:Int) (x.zm:Int) zz (by omega) (by omega) (by omega) (by omega) (by omega) (by omega) g W hW;unfold locS moSh;rw[j,i];simpa using this
theorem znp (s:K2) (hl:s.length<=1073741823) (w:World) (hT:UT w):Calls prog 62 #[.string ⟨s.toArray⟩] w (zdf (locP s) w):=by
 have HT:=hid hT;clear hT;obtain⟨r,A⟩:=ex (locP s)
 have U:=hid A;rw[A];clear A;have D:Hid (locP s=match Y8 s with|none=>([],3)|some x=>if x.z≠0 then([],3)else if okR x=false then([],13)else(locS x,0)):=hid rfl;cases hrd:Y8 s with
 |none=>
  have M:Hid (r=([],3)):=hid (by rw[<-U.out,D.out,hrd]);have j:=hid (fun W=>zjn hl hrd W);clear hrd;go_enter func62,ntmps62;go_wp2_with fail;refine(j.out _).mono ?_;rintro e K ⟨a,G,y,m,d,h,mi,c,zh,zm,n,z,rfl⟩;have u:=hid a;clear a;go_wp2;go_ret2;rw[M.out];exact⟨rfl,u.out.alloc u.out.size _⟩
 |some x=>
  have q:=zrc hrd;have C:=mo_z hrd;have F:=hid (fun W=>zft hl hrd W);have B:=zrf q;have t:=hid (fun W=>zfr ((moSh x:Nat):Int) x.y x.m x.d x.h x.mi x.c x.zh x.zm (x.nanos:Int) ((x.z.toNat:Nat):Int) W);rw[B]at t;obtain⟨G,v⟩:=ex (moSh x)
  obtain⟨N,l⟩:∃N:Int,((x.z.toNat:Nat):Int)=N:=⟨_,rfl⟩
  have L:=hid (fun W hW=>zrg q C.2 N W hW);rw[v]at L;obtain⟨tx,J⟩:=ex (locS x)
  rw[J]at L;have aa:=hid J;have j:=F;have p:=t;rw[v,l]at j p;clear F t J;by_cases hz:x.z=0
  .obtain rfl:0=N:=by rw[<-l,hz];rfl
   have hz0b:((0:Int)==0)=true:=rfl;have hz0c:((0:Int) != 0)=false:=rfl;cases A:okR x with
   |false=>
    have M:Hid (r=([],13)):=hid (by rw[<-U.out,D.out,hrd];simp only;rw[if_neg (by simp[hz]),if_pos A]);rw[A]at p;clear hrd q C B v l hz A;go_enter func62,ntmps62;go_wp2_with fail;refine(j.out _).mono ?_;rintro e K ⟨rfl,a⟩;go_upto_region 2 with fail;obtain⟨Q,i⟩:=ex K.heap.size
    obtain⟨k,f⟩:∃k,k=K.alloc (.cells #[.int .i64 (G:Int),.int .i64 (x.y:Int),.int .i64 (x.m:Int),.int .i64 (x.d:Int),.int .i64 (x.h:Int),.int .i64 (x.mi:Int),.int .i64 (x.c:Int),.int .i64 (x.zh:Int),.int .i64 (x.zm:Int),.int .i64 (x.nanos:Int),.int .u8 0] 96):=⟨_,rfl⟩
    have b:Hid (Blk k Q 96 #[.int .i64 (G:Int),.int .i64 (x.y:Int),.int .i64 (x.m:Int),.int .i64 (x.d:Int),.int .i64 (x.h:Int),.int .i64 (x.mi:Int),.int .i64 (x.c:Int),.int .i64 (x.zh:Int),.int .i64 (x.zm:Int),.int .i64 (x.nanos:Int),.int .u8 0]/\Below w.heap.size w k/\UT k):=hid (by
     have O:Below w.heap.size w k:=by rw[f];exact a.alloc a.size _
     exact⟨by rw[f,<-i];exact Q4 _ _ _,O,Q1 _ _ HT.out O⟩)
    (try rw[<-f]);(try rw[i]);clear f i a;obtain⟨q0,X,q2,V,Y,S,q6,T,R,Z,E⟩:=zag b.out.1;go_wp2_with fail;refine(p.out _).mono ?_;rintro e I ⟨rfl,g⟩;have o:Hid (Blk I Q 96 #[.int .i64 (G:Int),.int .i64 (x.y:Int),.int .i64 (x.m:Int),.int .i64 (x.d:Int),.int .i64 (x.h:Int),.int .i64 (x.mi:Int),.int .i64 (x.c:Int),.int .i64 (x.zh:Int),.int .i64 (x.zm:Int),.int .i64 (x.nanos:Int),.int .u8 0]/\Below w.heap.size w I/\UT I):=hid ⟨b.out.1.below g b.out.1.lt,b.out.2.1.trans (g.mono b.out.2.1.size),Q1 _ _ b.out.2.2 g⟩;clear g q0 X q2 V Y S q6 T R Z E;go_wp2;go_ret2;rw[M.out];exact⟨rfl,o.out.2.1⟩
   |true=>
    have M:Hid (r=(tx,0)):=hid (by rw[<-U.out,D.out,hrd];simp only;rw[if_neg (by simp[hz]),if_neg (by rw[A];decide),aa.out]);rw[A]at p;clear hrd q C B v l hz A;go_enter func62,ntmps62;go_wp2_with fail;refine(j.out _).mono ?_;rintro e K ⟨rfl,a⟩;go_upto_region 2 with fail;obtain⟨Q,i⟩:=ex K.heap.size
    obtain⟨k,f⟩:∃k,k=K.alloc (.cells #[.int .i64 (G:Int),.int .i64 (x.y:Int),.int .i64 (x.m:Int),.int .i64 (x.d:Int),.int .i64 (x.h:Int),.int .i64 (x.mi:Int),.int .i64 (x.c:Int),.int .i64 (x.zh:Int),.int .i64 (x.zm:Int),.int .i64 (x.nanos:Int),.int .u8 0] 96):=⟨_,rfl⟩
    have b:Hid (Blk k Q 96 #[.int .i64 (G:Int),.int .i64 (x.y:Int),.int .i64 (x.m:Int),.int .i64 (x.d:Int),.int .i64 (x.h:Int),.int .i64 (x.mi:Int),.int .i64 (x.c:Int),.int .i64 (x.zh:Int),.int .i64 (x.zm:Int),.int .i64 (x.nanos:Int),.int .u8 0]/\Below w.heap.size w k/\UT k):=hid (by
     have O:Below w.heap.size w k:=by rw[f];exact a.alloc a.size _
     exact⟨by rw[f,<-i];exact Q4 _ _ _,O,Q1 _ _ HT.out O⟩)
    (try rw[<-f]);(try rw[i]);clear f i a;obtain⟨q0,X,q2,V,Y,S,q6,T,R,Z,E⟩:=zag b.out.1;go_wp2_with fail;refine(p.out _).mono ?_;rintro e I ⟨rfl,g⟩;have o:Hid (Blk I Q 96 #[.int .i64 (G:Int),.int .i64 (x.y:Int),.int .i64 (x.m:Int),.int .i64 (x.d:Int),.int .i64 (x.h:Int),.int .i64 (x.mi:Int),.int .i64 (x.c:Int),.int .i64 (x.zh:Int),.int .i64 (x.zm:Int),.int .i64 (x.nanos:Int),.int .u8 0]/\Below w.heap.size w I/\UT I):=hid ⟨b.out.1.below g b.out.1.lt,b.out.2.1.trans (g.mono b.out.2.1.size),Q1 _ _ b.out.2.2 g⟩;clear g q0 X q2 V Y S q6 T R Z E;go_upto_region 6 with fail;obtain⟨q0,X,q2,V,Y,S,q6,T,R,Z,E⟩:=zag o.out.1;go_wp2_with fail;refine(L.out _ o.out.2.2).mono ?_;rintro e w4 ⟨rfl,P⟩;have ab:Hid (Below w.heap.size w w4):=hid (o.out.2.1.trans (P.mono o.out.2.1.size));clear P;go_wp2;go_ret2;rw[M.out];exact⟨rfl,ab.out⟩
  .have M:Hid (r=([],3)):=hid (by rw[<-U.out,D.out,hrd];simp only;rw[if_pos hz]);have H:=u8_z hz;rw[l]at H;have hznb:(N==0)=false:=by simpa using H
   have hznc:(N != 0)=true:=by simpa using H
   clear hrd q C B v l hz;go_enter func62,ntmps62;go_wp2_with fail;refine(j.out _).mono ?_;rintro e K ⟨rfl,a⟩;have u:=hid a;clear a;go_wp2;go_ret2;rw[M.out];exact⟨rfl,u.out.alloc u.out.size _⟩
theorem zrh {s:K2} (h:Y8 s=none):(locP s).2=3:=by unfold locP;rw[h]
theorem zzg {x:U7} (h:MoOk x):1<=moSh x:=by
 unfold moSh;rcases h.sh with⟨a,b⟩|⟨a,b,_⟩|⟨a,b,_⟩<;>rw[a,b]<;>decide
theorem znq (s:K2) (hl:s.length<=1073741823) (w:World) (hT:UT w):
 Calls prog 46 #[.string ⟨s.toArray⟩] w fun e w'=>(∃n:Int,e=.returned (.int .i64 n)/\(n != 0)=locB s)/\Below w.heap.size w w':=by
 have i:=hid (znp s hl w hT);have j:Hid (locB s=decide ((locP s).2=0/\(locP s).1=s)):=hid rfl;obtain⟨r,H⟩:=ex (locB s)
 rw[H]at j ⊢;have C:=hid (fun h=>zrh (s:=s) h);have c:=hid (fun x (h:Y8 s=some x)=>And.intro (fun W=>zft hl h W) (zrc h));obtain⟨⟨l,k⟩,I⟩:∃p,locP s=p:=⟨_,rfl⟩
 rw[I]at i j C;obtain⟨o,d⟩:∃o:Int,(k:Int)=o:=⟨_,rfl⟩
 unfold zdf at i;simp only[d]at i j;have E:=hid d;clear H I d hT;by_cases h0:o=0
 .subst h0;have u:((0:Int)==0)=true:=rfl;have D:((0:Int) != 0)=false:=rfl;by_cases hs:l=s
  .have g:(l==s)=true:=by rw[qkq];exact hs
   have G:(l != s)=false:=by rw[bne,g];rfl
   have B:Hid (r=true):=hid (by rw[j.out];simp[hs];have:=E.out;omega);cases hrd:Y8 s with
   |none=>exact absurd (C.out hrd) (by have:=E.out;simp only;omega)
   |some x=>
    obtain⟨A,m⟩:=c.out x hrd;have y:=hid A;have F:=zzg m;obtain⟨sh,f⟩:=ex (moSh x)
    obtain⟨J,t⟩:∃J:Int,((x.z.toNat:Nat):Int)=J:=⟨_,rfl⟩
    rw[f,t]at y;rw[f]at F;clear hs hrd m A f t c C;go_enter func46,ntmps46;go_wp2_with fail;refine i.out.mono ?_;rintro e K ⟨rfl,a⟩;have b:=hid a;clear a;go_wp2_with fail;refine(y.out _).mono ?_;rintro e w2 ⟨rfl,v⟩;have q:=hid (b.out.trans (v.mono b.out.size));clear v;go_wp2;go_ret;exact⟨⟨_,rfl,by rw[B.out];simp;omega⟩,q.out.alloc q.out.size _⟩
  .have g:(l==s)=false:=by rw[qqq];exact hs
   have G:(l != s)=true:=by rw[bne,g];rfl
   have B:Hid (r=false):=hid (by rw[j.out];simp[hs]);clear hs c C;go_enter func46,ntmps46;go_wp2_with fail;refine i.out.mono ?_;rintro e K ⟨rfl,a⟩;have b:=hid a;clear a;go_wp2;go_ret;exact⟨⟨_,rfl,by rw[B.out];rfl⟩,b.out⟩
 .have u:(o==0)=false:=by simpa using h0
  have D:(o != 0)=true:=by rw[bne,u];rfl
  have B:Hid (r=false):=hid (by rw[j.out];simp;intro e;exact absurd (by have:=E.out;omega) h0);clear c C;go_enter func46,ntmps46;go_wp2_with fail;refine i.out.mono ?_;rintro e K ⟨rfl,a⟩;have b:=hid a;clear a;go_wp2;go_ret;exact⟨⟨_,rfl,by rw[B.out];rfl⟩,b.out⟩
theorem zuk (text:K2) (hl:text.length<=1073741823):ScalOk UT 8 text (locB text):=by
 intro w d;have c:=hid (znq text hl w d);obtain⟨r,b⟩:=ex (locB text)
 rw[b]at c ⊢;clear b d;go_enter func27,ntmps27;go_wp2_with fail;refine c.out.mono ?_;rintro e w2 ⟨⟨n,rfl,g⟩,f⟩;have h:=hid f;have a:=hid g;clear f g;go_wp2;go_ret;exact⟨by rw[<-a.out];rfl,h.out⟩
theorem zul (text:K2) (hl:text.length<=1073741823):ScalOk UT 7 text (insB text):=by
 intro w q;have d:=hid (zjo text hl w q);have f:Hid (insB text=decide ((insP text).2=0/\(insP text).1=text)):=hid rfl;obtain⟨r,m⟩:=ex (insB text)
 rw[m]at f ⊢;obtain⟨⟨l,k⟩,o⟩:∃p,insP text=p:=⟨_,rfl⟩
 rw[o]at d f;obtain⟨h,c⟩:∃h:Int,(k:Int)=h:=⟨_,rfl⟩
 unfold zdf at d;simp only[c]at d f;have s:=hid c;clear m o c q;by_cases h0:h=0
 .subst h0;have i:((0:Int)==0)=true:=rfl;by_cases hs:l=text
  .have j:(l==text)=true:=by rw[qkq];exact hs
   have g:Hid (r=true):=hid (by rw[f.out];simp[hs];have:=s.out;omega);clear hs;go_enter func27,ntmps27;go_wp2_with fail;refine d.out.mono ?_;rintro e n ⟨rfl,a⟩;have b:=hid a;clear a;go_wp2;go_ret;rw[g.out];exact⟨rfl,b.out⟩
  .have j:(l==text)=false:=by rw[qqq];exact hs
   have g:Hid (r=false):=hid (by rw[f.out];simp[hs]);clear hs;go_enter func27,ntmps27;go_wp2_with fail;refine d.out.mono ?_;rintro e n ⟨rfl,a⟩;have b:=hid a;clear a;go_wp2;go_ret;rw[g.out];exact⟨rfl,b.out⟩
 .have i:(h==0)=false:=by simpa using h0
  have g:Hid (r=false):=hid (by rw[f.out];simp;intro e;exact absurd (by have:=s.out;omega) h0);go_enter func27,ntmps27;go_wp2_with fail;refine d.out.mono ?_;rintro e n ⟨rfl,a⟩;have b:=hid a;clear a;go_wp2;go_ret;rw[g.out];exact⟨rfl,b.out⟩
namespace Gr
def atL (m:List Bool):List Nat:=(K7 m.length).map (fun i=>(m.take i).count true)
theorem zcd (m:List Bool):(atL m).length=m.length:=by simp[atL]
theorem zd3 {m:List Bool} {i:Nat} (h:i<m.length):(atL m).getD i 0=(m.take i).count true:=by
 simp[atL,K5,h]
theorem zyr (m:List Bool) (x:Nat):(atL m).getD x 0<=m.length:=by
 by_cases h:x<m.length
 .rw[zd3 h];exact U1 List.count_le_length (by rw[F2];omega)
 .rw[K5,List.getElem?_eq_none (by rw[zcd];omega)];exact Q7 _
def mvN (M:List Nat) (x:Nd):Nd:=⟨x.kind,x.text,x.ord,x.keys.map (fun y=>M.getD y 0),x.items.map (fun y=>M.getD y 0)⟩
def keptT (ns:List Nd) (m:List Bool) (j:Nat):List Nd:=(((ns.zip m).take j).filter (fun p=>p.2)).map (fun p=>mvN (atL m) p.1)
def keptN (ns:List Nd) (m:List Bool):List Nd:=keptT ns m ns.length
theorem zd4 {ns:List Nd} {m:List Bool} {j:Nat} (h:j<ns.length) (h2:j<m.length):keptT ns m (j+1)=if m[j]=true then keptT ns m j++[mvN (atL m) ns[j]]else keptT ns m j:=by
 have a:j<(ns.zip m).length:=by rw[X9];omega
 unfold keptT;rw[X2 a,List.filter_append,U8,U6];by_cases hm:m[j]=true
 .rw[if_pos hm];simp[hm]
 .rw[if_neg hm];simp[hm]
theorem zdo {ns:List Nd} {m:List Bool} {j:Nat} (h:m.length=ns.length) (hj:j<=ns.length):(keptT ns m j).length=(m.take j).count true:=by
 induction j with
 |zero=>simp[keptT]
 |succ j ih=>
  have a:j<ns.length:=by omega
  rw[zd4 a (by omega),X2 (by omega),V7];have:=ih (by omega);by_cases hm:m[j]=true
  .rw[if_pos hm,Q8,this,hm];rfl
  .rw[if_neg hm,this];rw[Y3]at hm;rw[hm];rfl
theorem ztr {m:List Bool} {i:Nat} (h:i<m.length) (hm:m[i]=true):(m.take i).count true<m.count true:=by
 have e:m=m.take i++m[i]::m.drop (i+1):=by rw[<-Z9 h,D1]
 have:m.count true=(m.take i).count true+(m[i]::m.drop (i+1)).count true:=by conv=>lhs;rw[e,V7]
 rw[this,hm];simp
theorem zpz {ns:List Nd} {r:Nat} (hr:Refs ns) (h:r<ns.length):Refs (keptN ns (marks ns r))/\(atL (marks ns r)).getD r 0<(keptN ns (marks ns r)).length:=by
 have g:=zau hr h;have f:(keptN ns (marks ns r)).length=(marks ns r).count true:=by
  unfold keptN;rw[zdo g (K4 _),Y5 (by omega)]
 have e:∀x,(hx:x<(marks ns r).length)->((marks ns r)[x]=true↔Reach (succ ns) r x):=fun x hx=>by
  rw[<-za3 hr h x];unfold mkd;rw[K5,K0 hx];rfl
 have c:∀x,x<ns.length->Reach (succ ns) r x->(atL (marks ns r)).getD x 0<(keptN ns (marks ns r)).length:=fun x hx q=>by
  rw[f,zd3 (by omega)];exact ztr (by omega) ((e x (by omega)).2 q)
 refine⟨fun y k u a=>?_,c r h (.refl _)⟩;unfold keptN keptT at k;obtain⟨p,o,rfl⟩:=Y7.1 k;obtain⟨d,b⟩:=F7.1 o;rw[Y5 (by rw[X9];omega)]at d;obtain⟨i,m,rfl⟩:=Y6.1 d;rw[X9]at m;rw[U6]at b a;have a:u∈ns[i].keys.map (fun y=>(atL (marks ns r)).getD y 0)++ns[i].items.map (fun y=>(atL (marks ns r)).getD y 0):=a;rw[<-U8]at a;obtain⟨v,l,rfl⟩:=Y7.1 a;have j:=hr ns[i] (K3 (by omega)) v l;refine c v j ?_;have n:Reach (succ ns) r i:=(e i (by omega)).1 b;have:v∈succ ns i:=by
  unfold succ;rw[K0 (by omega)];exact l
 exact n.trans (.step this (.refl _))
theorem zp0 {ns:List Nd} {m:List Bool} {P:Nd->Prop} (h:∀x∈ns,P (mvN (atL m) x)):∀x∈keptN ns m,P x:=by
 intro x a;unfold keptN keptT at a;obtain⟨p,c,rfl⟩:=Y7.1 a;have b:=List.mem_of_mem_take (F7.1 c).1;exact h _ (List.of_mem_zip b).1
end Gr
open Go.RowKit Go.WideShapes Go.ChangeShapes Go.Deep
theorem zs6 {α:Type} {Q:Nat->α->Prop} {n:Nat} (h:∀i,i<n->∃x,Q i x):∃l:List α,l.length=n/\∀i (hi:i<l.length),Q i l[i]:=by
 induction n with
 |zero=>exact⟨[],rfl,fun i h=>by simp at h⟩
 |succ n ih=>
  obtain⟨l,a,hl⟩:=ih (fun i hi=>h i (by omega));obtain⟨x,hx⟩:=h n (by omega);refine⟨l++[x],by simp[a],fun i hi=>?_⟩;by_cases hil:i<l.length
  .grind
  .grind
theorem row_of {α:Type} (L:Lay α) {w:World} {a:Addr} {l:List α} (h:∀i (hi:i<l.length) j u,(L.enc l[i])[j]? =some u->w.cell? (a.add (i*L.sz+j))=some u):RowAt L w w.heap.size (some a) l:=by
 have e:∀j u,(L.all l)[j]? =some u->w.cell? (a.add j)=some u:=by
  intro j u c;have q:=L.pos;have f:j<l.length*L.sz:=by have:=(U2.1 c).1;rwa[L.all_len]at this
  have k:j /L.sz<l.length:=Nat.div_lt_of_lt_mul (by rw[G4];exact f);have o:j%L.sz<L.sz:=Nat.mod_lt _ q;have s:=L.len l[j /L.sz];obtain⟨g,b⟩:∃g,(L.enc l[j /L.sz])[j%L.sz]? =some g:=⟨_,K0 (l:=L.enc l[j /L.sz]) (i:=j%L.sz) (by rw[s];exact o)⟩
  have m:=L.all_at l (j /L.sz) l[j /L.sz] (K0 k) (j%L.sz) g b;have n:j /L.sz*L.sz+j%L.sz=j:=by rw[G4];exact Nat.div_add_mod j L.sz
  rw[n]at m;rw[m]at c;injection c with c
  subst c;have:=h _ k _ _ b;rwa[n]at this
 refine⟨L.all_len l,fun y=>⟨a,rfl,?_,e⟩⟩;have t:0<(L.all l).length:=by rw[L.all_len];exact Nat.mul_pos y L.pos
 have:=World.block_lt_of_cell? w _ (e 0 _ (K0 t));rwa[zbi]at this
section
variable {H:Type} {enc:TypeId×Value->H} {W:World} {r:Reach} {b0 base fuel:Nat} {sp:Nat->Bool} {hd:Bool} {v:Value} {d:DataW H} {p:List MemPlace} {cs:List Value} {x:DataW H×List MemPlace}
theorem zj2 (h:DataW.trod enc prog W base sp hd fuel 35 cs=some x):
 ∃(A:Option Addr) (c:Nat) (l:List Int),cs=[.slice A l.length c]/\RowAt intI W W.heap.size A l/\l.length<=maxLen:=by
 rcases open_slice1 underlying35 (by kernel_rfl) h with⟨o,y⟩|⟨a,f,q,m,n,V,D,Pl,rfl,hb,hl,hm,s,rfl,y⟩
 .exact⟨none,0,[],o,G8,by simp⟩
 .have hml:f<=m:=by rw[s];split<;>omega
  obtain⟨l,k,b⟩:=zs6 (Q:=fun i (x:Int)=>W.cell? (a.add i)=some (.int .i64 x)) (n:=f) (fun i t=>by
   obtain⟨w,z⟩:=y i (by omega);obtain⟨n,e,_⟩:=DataW.trod_int underlying3 z;injection e with e
   exact⟨n,by rw[w,e]⟩)
  subst k;refine⟨some a,q,l,rfl,row_of intI (fun i t j u g=>?_),by omega⟩;have B:j=0:=by
   have:=(U2.1 g).1;have w:(intI.enc l[i]).length=1:=rfl;omega
  subst B;have g:some (Value.int .i64 l[i])=some u:=g;rw[<-g,<-b i t];show W.cell? (a.add (i*1+0))=_;rw[Nat.mul_one,Nat.add_zero]
theorem zor (h:DataW.trod enc prog W base sp hd fuel 22 cs=some x):
 ∃(A:Option Addr) (c:Nat) (vs:List NV) (is:List Gr.Ni),cs=[.slice A is.length c]/\IAt W W.heap.size A vs is/\is.length<=maxLen/\∀y∈is,y.text.length<=maxLen/\y.keys.length<=maxLen/\y.items.length<=maxLen:=by
 have X:prog.cellsOf 37=5:=by kernel_rfl
 have O:prog.cellsOf 3=1:=by kernel_rfl
 have G:prog.cellsOf 9=1:=by kernel_rfl
 have R:prog.cellsOf 4=1:=by kernel_rfl
 have J:prog.cellsOf 35=1:=by kernel_rfl
 obtain⟨C,w⟩:∃C:Array Field,prog.underlying 37=some (.struct C)/\C.map (fun f=>(f.type,f.offset))=#[(3,0),(9,1),(4,2),(35,3),(35,4)]:=⟨_,underlying37,by kernel_rfl⟩
 obtain⟨w,aa⟩:=w;have q:∀(i:Nat) (t:TypeId) (o:Nat),(#[(3,0),(9,1),(4,2),(35,3),(35,4)]:Array (TypeId×Nat))[i]? =some (t,o)->∃f:Field,C[i]? =some f/\f.type=t/\f.offset=o:=by
  grind
 rcases open_slice underlying22 h with⟨T,hx⟩|⟨a,F,U,m,n,D,Pl,rfl,hb,hl,hm,Y,rfl,hx⟩
 .exact⟨none,0,[],[],T,⟨G8,rfl,fun j h=>by simp at h,fun j h=>by simp at h⟩,by simp,by simp⟩
 .have hml:F<=m:=by rw[Y];split<;>omega
  obtain⟨l,S,e⟩:=zs6 (n:=F) (Q:=fun i (x:NV×Gr.Ni)=>(∀j u,(nodeL.enc x.1)[j]? =some u->W.cell? (a.add (i*5+j))=some u)/\(x.1.kind=x.2.kind/\x.1.text=x.2.text/\x.1.ord=x.2.ord)/\
   (RowAt intI W W.heap.size x.1.k.a x.2.keys/\x.1.k.n=x.2.keys.length/\RowAt intI W W.heap.size x.1.i.a x.2.items/\x.1.i.n=x.2.items.length)/\x.2.text.length<=maxLen/\x.2.keys.length<=maxLen/\x.2.items.length<=maxLen) (fun i I=>by
   obtain⟨V,M,N⟩:=hx i (by omega);rw[X]at M;obtain⟨_,L,E⟩:=World.cells?_some M;obtain⟨xs,n',_,_,_,hxl,K⟩:=DataW.trod_struct w N;have hsz:C.size=5:=by have:=congrArg G6 aa;simpa using this
   obtain⟨f0,g0,t0,o0⟩:=q 0 _ _ rfl;obtain⟨f1,g1,t1,o1⟩:=q 1 _ _ rfl;obtain⟨f2,g2,t2,o2⟩:=q 2 _ _ rfl;obtain⟨f3,g3,t3,o3⟩:=q 3 _ _ rfl;obtain⟨f4,g4,t4,o4⟩:=q 4 _ _ rfl;have e0:=K 0 f0 g0;have e1:=K 1 f1 g1;have e2:=K 2 f2 g2;have e3:=K 3 f3 g3;have e4:=K 4 f4 g4;rw[t0,o0,O,K0 (by omega)]at e0;rw[t1,o1,G,K0 (by omega)]at e1;rw[t2,o2,R,K0 (by omega)]at e2;rw[t3,o3,J,K0 (by omega)]at e3;rw[t4,o4,J,K0 (by omega)]at e4;obtain⟨k,k1,_⟩:=DataW.trod_int underlying3 e0;obtain⟨s,s1,_,s3⟩:=DataW.trod_string underlying9 e1;obtain⟨b,b1,_⟩:=DataW.trod_bool underlying4 e2;obtain⟨A3,c3,l3,r3,q3,z3⟩:=zj2 e3;obtain⟨A4,c4,l4,r4,q4,z4⟩:=zj2 e4
   match V,L with
   | [v0,v1,v2,v3,v4],_=>
    simp at k1 s1 b1 r3 r4;subst k1 s1 b1 r3 r4;have hs:s=⟨(s.data.toList).toArray⟩:=by apply ByteArray.ext;simp
    have P:s.data.toList.length<=maxLen:=by simpa using s3
    refine⟨(⟨k,s.data.toList,b,⟨A3,l3.length,c3⟩,⟨A4,l4.length,c4⟩⟩,⟨k,s.data.toList,b,l3,l4⟩),?_,⟨rfl,rfl,rfl⟩,⟨q3,rfl,q4,rfl⟩,P,z3,z4⟩;intro j u g;have hat':=fun j hj=>E j hj
    have hj:j<5:=by
     have:=(U2.1 g).1;exact this
    have B:=E j (by omega);rw[zge]at B;have Z:j=0\/j=1\/j=2\/j=3\/j=4:=by omega
    rcases Z with rfl|rfl|rfl|rfl|rfl
    .exact B.trans g
    .have g:some (Value.string ⟨(s.data.toList).toArray⟩)=some u:=g;rw[<-hs]at g;exact B.trans g
    .exact B.trans g
    .exact B.trans g
    .exact B.trans g)
  subst S;refine⟨some a,U,l.map (·.1),l.map (·.2),by simp,⟨row_of nodeL (fun i I j u g=>?_),by simp,fun j M N=>?_,fun j M N=>?_⟩,by simp;omega,fun y hy=>?_⟩
  .simp only[Q5]at I;rw[Z1]at g;exact(e i I).1 j u g
  .grind
  .grind
  .obtain⟨z,hz,rfl⟩:=Y7.1 hy;obtain⟨i,I,rfl⟩:=Y6.1 hz;exact(e i I).2.2.2
theorem zos (h:DataW.trod enc prog W base sp hd fuel 24 cs=some x):
 ∃(A:Option Addr) (c:Nat) (root:Int) (vs:List NV) (is:List Gr.Ni),cs=[.slice A is.length c,.int .i64 root]/\IAt W W.heap.size A vs is/\is.length<=maxLen/\∀y∈is,y.text.length<=maxLen/\y.keys.length<=maxLen/\y.items.length<=maxLen:=by
 have m:prog.cellsOf 3=1:=by kernel_rfl
 have j:prog.cellsOf 22=1:=by kernel_rfl
 have l:prog.cellsOf 24=2:=by kernel_rfl
 obtain⟨g,b⟩:∃g:Array Field,prog.underlying 24=some (.struct g)/\g.map (fun f=>(f.type,f.offset))=#[(22,0),(3,1)]:=⟨_,underlying24,by kernel_rfl⟩
 obtain⟨b,n⟩:=b;have e:∀(i:Nat) (t:TypeId) (o:Nat),(#[(22,0),(3,1)]:Array (TypeId×Nat))[i]? =some (t,o)->∃f:Field,g[i]? =some f/\f.type=t/\f.offset=o:=by
  grind
 obtain⟨xs,n',_,_,a,hxl,q⟩:=DataW.trod_struct b h;have hsz:g.size=2:=by have:=congrArg G6 n;simpa using this
 obtain⟨F,D,z,w⟩:=e 0 _ _ rfl;obtain⟨B,E,G,C⟩:=e 1 _ _ rfl;have u:=q 0 F D;have s:=q 1 B E;rw[z,w,j,K0 (by omega)]at u;rw[G,C,m,K0 (by omega)]at s;rw[l]at a;obtain⟨A,c,vs,is,r0,q0,z0,z1⟩:=zor u;obtain⟨k,k1,_⟩:=DataW.trod_int underlying3 s
 match cs,a with
 | [v0,v1],_=>
  grind
theorem zgy (hv:Value.okWide prog W r b0 24 v) (h:DataW.Trod enc prog W base sp hd 24 v d p):
 ∃(A:Option Addr) (c:Nat) (root:Int) (vs:List NV) (is:List Gr.Ni),v=.agg #[.slice A is.length c,.int .i64 root]/\IAt W W.heap.size A vs is/\is.length<=maxLen/\∀y∈is,y.text.length<=maxLen/\y.keys.length<=maxLen/\y.items.length<=maxLen:=by
 obtain⟨b,a⟩:∃b:Array Field,prog.underlying 24=some (.struct b):=⟨_,underlying24⟩
 obtain⟨cs,rfl,_⟩:=okWide_struct a hv;obtain⟨fuel,f⟩:=h;obtain⟨A,c,root,vs,is,e,q⟩:=zos f;refine⟨A,c,root,vs,is,?_,q⟩;simp only[Value.cells]at e;have:cs=#[.slice A is.length c,.int .i64 root]:=by apply G7;simpa using e
 rw[this]
end
end Go.Proofs.YtpgmfihonmoliabGreatDoor

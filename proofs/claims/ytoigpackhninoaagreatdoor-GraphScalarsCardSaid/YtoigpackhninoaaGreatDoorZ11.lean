import Derived.Test.YtoigpackhninoaaGreatDoorGrSame
namespace Go.Proofs.YtoigpackhninoaaGreatDoor
namespace Gr
theorem zmq (L:List Nat):∀(l:List Nat) (x:Nat),x<l.length->(L.foldl cstep l).getD x 0=l.getD x 0+L.count x:=by
 induction L with
 |nil=>intro l x _;simp
 |cons y L ih=>
  intro l x hx;rw[List.foldl_cons,ih (cstep l y) x (by unfold cstep;simpa using hx)];unfold cstep;by_cases h:y=x
  ·grind
  ·grind
theorem ze5 {ns:List Nd} {root x:Nat} (hx:x<ns.length):(counts ns root).getD x 0=(if x=root then 1 else 0)+(refs ns).count x:=by
 unfold counts;rw[zmq _ _ _ (by unfold cstep;simpa using hx)]
 congr 1
 unfold cstep;have e:∀y,(List.replicate ns.length 0).getD y 0=0:=fun y=>by simp[List.getD_eq_getElem?_getD,List.getElem?_replicate];split<;>rfl
 by_cases h:x=root
 ·grind
 ·grind
theorem zh1 (a b:List Nd):refs (a++b)=refs a++refs b:=by unfold refs;rw[List.flatMap_append]
theorem zo4 {ns:List Nd} {a b:Nat} (ha:a<ns.length) (hb:b∈succ ns a):b∈refs ns:=by
 unfold succ at hb;rw[List.getElem?_eq_getElem ha]at hb;exact List.mem_flatMap.2 ⟨_,List.getElem_mem ha,hb⟩
theorem zi0 {ns:List Nd} {a p b:Nat} (hap:p<a) (ha:a<ns.length) (h1:b∈succ ns a) (h2:b∈succ ns p):2<=(refs ns).count b:=by
 have e:refs ns=refs (ns.take a)++refs (ns.drop a):=by rw[<-zh1,List.take_append_drop]
 rw[e,List.count_append];have c1:b∈refs (ns.take a):=by
  unfold succ at h2;rw[List.getElem?_eq_getElem (by omega)]at h2;refine List.mem_flatMap.2 ⟨ns[p],?_,h2⟩;rw[List.mem_take_iff_getElem];exact⟨p,by omega,rfl⟩
 have c2:b∈refs (ns.drop a):=by
  unfold succ at h1;rw[List.getElem?_eq_getElem ha]at h1;refine List.mem_flatMap.2 ⟨ns[a],?_,h1⟩;rw[List.mem_drop_iff_getElem];exact⟨0,by omega,by simp⟩
 have:=List.count_pos_iff.2 c1;have:=List.count_pos_iff.2 c2;omega
section
variable {ns:List Nd} {root:Nat}
theorem Reach.last {sc:Nat->List Nat} {a b:Nat} (h:Reach sc a b):a=b\/∃p,Reach sc a p/\b∈sc p:=by
 induction h with
 |refl=>exact .inl rfl
 |step h1 h2 ih=>
  rcases ih with rfl|⟨p,h3,h4⟩
  ·exact .inr ⟨_,.refl _,h1⟩
  ·exact .inr ⟨p,.step h1 h3,h4⟩
theorem zo5 (hr:Refs ns) (hroot:root<ns.length) (hall:∀v,v<ns.length->Reach (succ ns) root v) (hone:∀x,x<ns.length->mkd (inKeys ns) x=true->(counts ns root).getD x 0=1) {i x:Nat} (hi:i<ns.length) (hk:mkd (inKeys ns) i=true) (hx:x∈succ ns i):¬Reach (succ ns) x i:=by
 intro hc;have hlt:∀a,a<ns.length->∀b,Reach (succ ns) a b->b<ns.length:=fun a ha b h=>h.closed (p:=fun a=>a<ns.length) (fun a _ b hb=>hr.succ a b hb) ha
 have hin:∀j,Reach (succ ns) i j->mkd (inKeys ns) j=true:=fun j hj=>by
  obtain⟨k,h1,h2⟩:=(zbl hr i).1 hk;exact(zbl hr j).2 ⟨k,h1,h2.trans hj⟩
 have hpre:∀j,Reach (succ ns) i j->Reach (succ ns) j i->∃p,Reach (succ ns) i p/\Reach (succ ns) p i/\j∈succ ns p:=by
  intro j h1 h2;have h3:Reach (succ ns) x j:=hc.trans h1;rcases h3.last with h4|⟨p,h4,h5⟩
  ·subst h4;exact⟨i,.refl _,.refl _,hx⟩
  ·exact⟨p,.step hx h4,.step h5 h2,h5⟩
 have hnot:¬(Reach (succ ns) i i/\Reach (succ ns) i i):=by
  have key:∀v,Reach (succ ns) root v->¬(Reach (succ ns) i v/\Reach (succ ns) v i):=by
   intro v hv;refine hv.closed (p:=fun v=>¬(Reach (succ ns) i v/\Reach (succ ns) v i)) ?_ ?_
   ·rintro a ha b hb ⟨h1,h2⟩;obtain⟨p,h3,h4,h5⟩:=hpre b h1 h2;have hbl:=hr.succ a b hb;have hne:a≠p:=fun e=>ha (e▸⟨h3,h4⟩)
    have hpl:=hlt i hi p h3;have hal:a<ns.length:=by
     unfold succ at hb;rcases Nat.lt_or_ge a ns.length with h|h
     ·exact h
     ·grind
    have h6:=hone b hbl (hin b h1);rw[ze5 hbl]at h6;have:2<=(refs ns).count b:=by
     rcases Nat.lt_or_gt_of_ne hne with h|h
     ·exact zi0 h hpl h5 hb
     ·exact zi0 h hal hb h5
    omega
   ·rintro⟨h1,h2⟩;obtain⟨p,h3,h4,h5⟩:=hpre root h1 h2;have h6:=hone root hroot (hin root h1);rw[ze5 hroot,if_pos rfl]at h6;have:=List.count_pos_iff.2 (zo4 (hlt i hi p h3) h5);omega
  exact key i (hall i hi)
 exact hnot ⟨.refl _,.refl _⟩
open Classical in
theorem zrr (hr:Refs ns) (hroot:root<ns.length) (hall:∀v,v<ns.length->Reach (succ ns) root v) (hone:∀x,x<ns.length->mkd (inKeys ns) x=true->(counts ns root).getD x 0=1):∀(f i:Nat),i<ns.length->mkd (inKeys ns) i=true->(List.range ns.length).countP (fun j=>decide (Reach (succ ns) i j))<=f->Tall ns f i:=by
 intro f
 induction f with
 |zero=>
  intro i hi _ h;have:0<(List.range ns.length).countP (fun j=>decide (Reach (succ ns) i j)):=List.countP_pos_iff.2 ⟨i,List.mem_range.2 hi,by simpa using Reach.refl i⟩;omega
 |succ f ih=>
  intro i hi hk h x hx;have hxl:=hr.succ i x hx;have hxk:mkd (inKeys ns) x=true:=by
   obtain⟨k,h1,h2⟩:=(zbl hr i).1 hk;exact(zbl hr x).2 ⟨k,h1,h2.trans (.one hx)⟩
  refine ih x hxl hxk ?_;have:=zcr (fun j=>decide (Reach (succ ns) x j)) (fun j=>decide (Reach (succ ns) i j)) (List.range ns.length) (fun j _ hj=>by simpa using Reach.step hx (by simpa using hj)) i (List.mem_range.2 hi) (by simpa using zo5 hr hroot hall hone hi hk hx) (by simpa using Reach.refl i);omega
theorem zmr (hr:Refs ns) (hroot:root<ns.length) (hall:∀v,v<ns.length->Reach (succ ns) root v) (hone:∀x,x<ns.length->mkd (inKeys ns) x=true->(counts ns root).getD x 0=1):∀k∈allKeys ns,k<ns.length/\Tall ns ns.length k:=by
 intro k hk;have hkl:k<ns.length:=by
  obtain⟨y,hy,hky⟩:=List.mem_flatMap.1 hk;exact hr y hy k (List.mem_append_left _ hky)
 exact⟨hkl,zrr hr hroot hall hone _ k hkl ((zbl hr k).2 ⟨k,hk,.refl _⟩) (Nat.le_trans List.countP_le_length (by simp))⟩
end
end Gr
open Gr
open _root_.Go.Proofs.Tryz
open _root_.Go.Lib (hid)
set_option maxRecDepth 100000
set_option maxHeartbeats 16000000
open Go.RowKit
def NH (ns:List Gr.Nd):Prop:=∀n∈ns,n.keys.length<=1073741823/\n.items.length<=1073741823/\n.text.length<=1073741823
theorem zj6 (ns:List Gr.Nd) (h:NH ns):(Gr.refs ns).length<=ns.length*2147483646:=by
 induction ns with
 |nil=>simp[Gr.refs]
 |cons x l ih=>
  have h1:=ih (fun n hn=>h n (.tail _ hn));obtain⟨h2,h3,_⟩:=h x (.head _);have e:Gr.refs (x::l)=(x.keys++x.items)++Gr.refs l:=rfl;rw[e,List.length_append,List.length_append,List.length_cons,Nat.add_mul];omega
def dN:Gr.Nd:=⟨0,[],false,[],[]⟩
theorem zms {ns:List Gr.Nd} {i:Nat} (h:i<ns.length):ns.getD i ⟨0,[],false,[],[]⟩=ns[i]:=by
 rw[List.getD_eq_getElem?_getD,List.getElem?_eq_getElem h];rfl
theorem zes (k:Nat) (f:Nat->Bool):(List.range (k+1)).all f=((List.range k).all f && f k):=by
 rw[List.range_succ,List.all_append];simp
theorem zet (k:Nat) (f:Nat->Bool):(List.range (k+1)).any f=((List.range k).any f || f k):=by
 rw[List.range_succ,List.any_append];simp
def ScalsOk (T:World->Prop) (sclr:Int->Gr.Str->Bool) (ns:List Gr.Nd):Prop:=∀x∈ns,x.kind≠9->x.kind≠10->x.kind≠11->x.ord=false->x.keys=[]->x.items=[]->ScalOk T x.kind x.text (sclr x.kind x.text)
section
variable (sclr:Int->Gr.Str->Bool) (ns:List Gr.Nd) (root:Nat)
def ok1 (i:Nat):Bool:=(marks ns root).getD i false && formB sclr (ns.getD i ⟨0,[],false,[],[]⟩)
def bad2 (i:Nat):Bool:=(inKeys ns).getD i false && (counts ns root).getD i 0 != 1
theorem zmt:checkN sclr ns root=if(List.range ns.length).all (ok1 sclr ns root)=false then 3 else if(List.range ns.length).any (bad2 ns root)=true then 3 else if twice ns ns.length=true then 8 else if(depth ns root).1>32 then 5 else 0:=by
 unfold checkN;have e1:(List.range ns.length).all (ok1 sclr ns root)=(List.range ns.length).all (fun i=>(marks ns root).getD i false && formB sclr (ns.getD i ⟨0,[],false,[],[]⟩)):=rfl;have e2:(List.range ns.length).any (bad2 ns root)=(List.range ns.length).any (fun i=>(inKeys ns).getD i false && (counts ns root).getD i 0 != 1):=rfl;rw[e1,e2];cases(List.range ns.length).all (fun i=>(marks ns root).getD i false && formB sclr (ns.getD i ⟨0,[],false,[],[]⟩))<;>simp
end
theorem zt7 {sclr:Int->Gr.Str->Bool} {ns:List Gr.Nd} {root:Nat} (h:(List.range ns.length).all (ok1 sclr ns root)=true):Gr.KF ns/\(∀i,i<ns.length->mkd (marks ns root) i=true):=by
 rw[List.all_eq_true]at h;refine⟨fun n hn hk=>?_,fun i hi=>?_⟩
 ·obtain⟨i,hi,rfl⟩:=List.getElem_of_mem hn;have h1:=h i (List.mem_range.2 hi);unfold ok1 at h1;rw[zms hi,Bool.and_eq_true]at h1;have h2:=h1.2;unfold formB at h2;rw[hk]at h2;simp at h2;exact h2.2
 ·have h1:=h i (List.mem_range.2 hi);unfold ok1 at h1;rw[Bool.and_eq_true]at h1;exact h1.1
theorem zj7 (T:World->Prop) (hT:Stays T) (sclr:Int->Gr.Str->Bool) (A:Option Addr) (c root:Nat) (vs:List NV) (is:List Gr.Ni) (ns:List Gr.Nd) (hns:is.map Gr.Ni.nd=ns) (hn0:0<ns.length) (hn:ns.length<=4096) (hks:NH ns) (hin:indB is (root:Int)=true)
 (hsc:ScalsOk T sclr ns) (w:World) (hTw:T w) (h:IAt w w.heap.size A vs is):
 Calls prog 14 #[.agg #[.slice A ns.length c,.int .i64 root]] w fun e w'=>e=.returned (.int .i64 (checkN sclr ns root:Nat))/\Below w.heap.size w w':=by
 have hlen:is.length=ns.length:=by rw[<-hns];simp
 have hii:=hin;unfold indB at hin;rw[Bool.and_eq_true]at hin;have hroot:root<ns.length:=by
  have:=hin.1;unfold inR at this;simp at this;omega
 obtain⟨h0,hr⟩:=zff hin.2;rw[hns]at hr;have hG:GAt w w.heap.size A vs ns:=by rw[<-hns];exact h.toG h0
 have hks2:∀n∈ns,n.keys.length<=1073741823/\n.items.length<=1073741823:=fun n hn=>⟨(hks n hn).1,(hks n hn).2.1⟩
 have hl:ns.length<=1073741823:=by omega
 have HIND:Hid (∀W,Below w.heap.size w W->Calls prog 33 #[.agg #[.slice A ns.length c,.int .i64 (root:Int)]] W fun e w'=>e=.returned (.bool true)/\Below W.heap.size W w'):=hid (fun W hW=>by
  have:=zd7 A c (root:Int) vs is (by omega) (fun n hnm=>by
   have:=hks n.nd (by rw[<-hns];exact List.mem_map_of_mem hnm);simp only[Gr.Ni.nd,List.length_map]at this;exact⟨this.1,this.2.1⟩) W ((h.below hW).more hW.size)
  rw[hlen,hii]at this;exact this)
 have HG:=hid hG;have hmk:=fun W=>zc5 ns.length (by omega) W
 have HTW:=hid hTw;have hnI:(ns.length:Int)<=4096:=by omega
 have hn0I:(0:Int)<(ns.length:Int):=by omega
 have hn0b:((ns.length:Int)==0)=false:=by rw[beq_eq_false_iff_ne];omega
 have HSC:=hid hsc;have HCE:=hid (zmt sclr ns root);clear hns hin hii h0 hG hTw h hsc hlen;go_enter func14,ntmps14;go_upto_region 1 with fail;obtain⟨w1,hw1⟩:=ex (w.alloc (.cells #[.slice A ns.length c,.int .i64 root] 24))
 (try rw[hw1]);have l1:Below w.heap.size w w1:=by rw[<-hw1];exact(Below.refl _ _).alloc (Nat.le_refl _) _
 have b1:Blk w1 w.heap.size 24 #[.slice A ns.length c,.int .i64 root]:=by rw[<-hw1];exact Blk.new _ _ _
 obtain⟨gb,hgb⟩:=ex w.heap.size
 have HGB:=hid hgb;have L1:=hid l1;(try rw[hgb]);rw[hgb]at b1;have HB1:=hid b1;have HS:Hid (∀W,Below w1.heap.size w1 W->W.cell? ⟨gb,0,none⟩=some (.slice A ns.length c)/\W.cell? ⟨gb,1,none⟩=some (.int .i64 (root:Int))):=hid (fun W hW=>⟨(b1.below hW b1.lt).cell 0,(b1.below hW b1.lt).cell 1⟩);have HGL:Hid (gb<w1.heap.size):=hid b1.lt;have HGW:Hid (∀W,Below w1.heap.size w1 W->GAt W W.heap.size A vs ns):=hid (fun W hW=>(HG.out.below (l1.trans (hW.mono l1.size))).more (l1.trans (hW.mono l1.size)).size);have HBW:Hid (∀W,Below w1.heap.size w1 W->Below w.heap.size w W):=hid (fun W hW=>l1.trans (hW.mono l1.size));have hI1:=HIND.out w1 l1;have HI1:=hid hI1;obtain⟨g0,g1⟩:=HS.out w1 (Below.refl _ _);clear hw1 hgb l1 b1 hI1;go_wp2_with fail;refine HI1.out.mono ?_;rintro e w2 ⟨rfl,hb2⟩;obtain⟨p0,p1⟩:=HS.out w2 hb2;have HB2:=hid hb2;clear g0 g1 hb2;go_upto_region 6 with fail;obtain⟨w3,hw3⟩:=ex (w2.alloc (.cells (bcells (List.replicate ns.length false)) 4))
 obtain⟨mb,hmb⟩:=ex w2.heap.size
 have l3:Below w1.heap.size w1 w3:=by rw[<-hw3];exact HB2.out.alloc HB2.out.size _
 have b3:Blk w3 mb 4 (bcells (List.replicate ns.length false)):=by rw[<-hw3,<-hmb];exact Blk.new _ _ _
 have hmbl:w1.heap.size<=mb:=by rw[<-hmb];exact HB2.out.size
 have HR:=hid (zdy mb A c (root:Int) vs ns w.heap.size hr hl hks2 (List.replicate ns.length false) root w3 (HG.out.below (HBW.out w3 l3)) (by have:=L1.out.size;omega) b3 (by simp) hroot (zfc _));have HB3:=hid b3;have L3:=hid l3;have HMB:=hid hmbl;rw[hw3];(try rw[hmb]);obtain⟨q0,q1⟩:=HS.out w3 l3;clear hw3 hmb l3 b3 p0 p1 hmbl;go_wp2_with fail;refine HR.out.mono ?_;rintro e w4 ⟨rfl,hk4,hb4⟩;have hl4:Below w1.heap.size w1 w4:=L3.out.trans (KB.below (g:=mb) hk4 HMB.out L3.out.size);have HB4:Hid (Blk w4 mb 4 (bcells (marks ns root))):=hid hb4;have HML:Hid ((marks ns root).length=ns.length):=hid (zbx hr.succ ns.length (List.replicate ns.length false) root (by simp) hroot (zfc _)).len;have L4:=hid hl4;obtain⟨p0,p1⟩:=HS.out w4 hl4;clear hk4 hb4 hl4 q0 q1;go_upto_region 8 with fail;clear p0 p1;go_loopw [36] (fun s36 wr=>∃i:Nat,i<=ns.length/\s36=.int .i64 i/\Hid (Below w1.heap.size w1 wr/\Below w4.heap.size w4 wr/\(List.range i).all (ok1 sclr ns root)=true)) (fun s36 _=>ns.length-(intOf s36).toNat)
 case atStart=>exact⟨0,by omega,rfl,hid ⟨L4.out,Below.refl _ _,by simp⟩⟩
 case round=>
  obtain⟨i,hi,rfl,HW⟩:=hrel;obtain⟨wq,hwq⟩:∃wq,wq=wr:=⟨_,rfl⟩
  subst hwq;by_cases hlt:i<ns.length
  ·have hltI:(i:Int)<(ns.length:Int):=by omega
   obtain⟨ad,ks,is,rfl,hN⟩:=(HGW.out wq HW.out.1).node hlt;obtain⟨ka,kn,kc⟩:=ks;obtain⟨ia,inn,ic⟩:=is;have hnm:ns[i]∈ns:=List.getElem_mem hlt;obtain⟨hkl,hil,htl⟩:=hks _ hnm;have HSCI:=hid (HSC.out _ hnm);have HOK:Hid (ok1 sclr ns root i=((marks ns root).getD i false && formB sclr ns[i])):=hid (by unfold ok1;rw[zms hlt]);obtain⟨n,hn⟩:=ex (ns[i])
   rw[hn]at hN hkl hil htl HSCI HOK;obtain rfl:kn=n.keys.length:=hN.kn;obtain rfl:inn=n.items.length:=hN.inn;have x0:=hN.c0;have x1:=hN.c1;have x2:=hN.c2;have x3:=hN.c3;have x4:=hN.c4;obtain⟨mk,hmk2⟩:=ex ((marks ns root).getD i false)
   have hbq:Blk wq mb 4 (bcells (marks ns root)):=HB4.out.below HW.out.2.1 HB4.out.lt;have m0:wq.cell? ⟨mb,i,none⟩=some (.bool mk):=by rw[hbq.cell,zau (by rw[HML.out];exact hlt),hmk2]
   have HNX:Hid ((List.range (i+1)).all (ok1 sclr ns root)=(mk && formB sclr n)):=hid (by rw[zes,HW.out.2.2,HOK.out,hmk2];rfl);have HNO:Hid ((mk && formB sclr n)=false->checkN sclr ns root=3):=hid (fun e=>by
    rw[HCE.out,if_pos];rw[List.all_eq_false];exact⟨i,List.mem_range.2 hlt,by rw[HOK.out,hmk2,e];simp⟩)
   have hl5:Below wq.heap.size wq (wq.alloc (.cells #[.int .i64 n.kind,.string ⟨n.text.toArray⟩,.bool n.ord,.slice ka n.keys.length kc,.slice ia n.items.length ic] 35)):=(Below.refl _ _).alloc (Nat.le_refl _) _;have HF:=hid (zod T hT sclr n.kind n.text n.ord n.keys n.items ka ia kc ic htl hkl hil (fun a1 a2 a3 a4 a5 a6=>HSCI.out a1 a2 a3 a4 a5 a6) _ (hT _ _ HTW.out ((HBW.out wq HW.out.1).trans (hl5.mono (HBW.out wq HW.out.1).size))));have m1:(wq.alloc (.cells #[.int .i64 n.kind,.string ⟨n.text.toArray⟩,.bool n.ord,.slice ka n.keys.length kc,.slice ia n.items.length ic] 35)).cell? ⟨mb,i,none⟩=some (.bool mk):=(hl5.cell (p:=⟨mb,i,none⟩) hbq.lt).trans m0;obtain⟨fb,hfb⟩:=ex (formB sclr n)
   rw[hfb]at HNX HNO;have hfe:formB sclr ⟨n.kind,n.text,n.ord,n.keys,n.items⟩=fb:=hfb;rw[hfe]at HF;have HB5:Hid (Below w1.heap.size w1 (wq.alloc (.cells #[.int .i64 n.kind,.string ⟨n.text.toArray⟩,.bool n.ord,.slice ka n.keys.length kc,.slice ia n.items.length ic] 35))/\Below w4.heap.size w4 (wq.alloc (.cells #[.int .i64 n.kind,.string ⟨n.text.toArray⟩,.bool n.ord,.slice ka n.keys.length kc,.slice ia n.items.length ic] 35))):=hid ⟨HW.out.1.trans (hl5.mono HW.out.1.size),HW.out.2.1.trans (hl5.mono HW.out.2.1.size)⟩;clear hN hnm hn hbq hmk2 hfb hfe hl5;cases mk with
   |false=>
    go_wp2;go_ret;rw[HNO.out rfl];exact⟨rfl,HBW.out _ HB5.out.1⟩
   |true=>
    clear m0;go_wp2_with fail;refine HF.out.mono ?_;rintro e w6 ⟨rfl,hb6⟩;have HB6:Hid (Below w1.heap.size w1 w6/\Below w4.heap.size w4 w6):=hid ⟨HB5.out.1.trans (hb6.mono HB5.out.1.size),HB5.out.2.trans (hb6.mono HB5.out.2.size)⟩;clear hb6;cases fb with
    |false=>
     go_wp2;go_ret;rw[HNO.out rfl];exact⟨rfl,HBW.out _ HB6.out.1⟩
    |true=>
     go_wp2;go_roundw
     case rel=>exact⟨i+1,by omega,by go_num,hid ⟨HB6.out.1,HB6.out.2,by rw[HNX.out];rfl⟩⟩
     case measure=>simp[intOf];omega
  ·have hltI:¬(i:Int)<(ns.length:Int):=by omega
   have hall1:(List.range ns.length).all (ok1 sclr ns root)=true:=by
    have:=HW.out.2.2;rwa[show i=ns.length from by omega]at this
   obtain⟨hkf,hmarks⟩:=zt7 hall1;have hreach:∀v,v<ns.length->Gr.Reach (Gr.succ ns) root v:=fun v hv=>(zk5 hr hroot v).1 (hmarks v hv)
   have HKF:=hid hkf;have HREACH:=hid hreach;have HA1:=hid hall1;have HC:=hid (zjj A c root vs ns hr hl hks2 (by have:=zj6 ns hks;omega) wq (HGW.out wq HW.out.1) hroot);obtain⟨p0,p1⟩:=HS.out wq HW.out.1;clear hkf hmarks hreach hall1;go_upto_region 13 with fail;go_wp2_with fail;refine HC.out.mono ?_;rintro e w7 ⟨cb,rfl,hcb,hb7,hcc⟩;have HB7:Hid (Below w1.heap.size w1 w7):=hid (HW.out.1.trans (hb7.mono HW.out.1.size));have HCC:=hid hcc;have HK:=hid (zjk A c (root:Int) vs ns hr hl hks2 w7 (HGW.out w7 HB7.out));obtain⟨q0,q1⟩:=HS.out w7 HB7.out;clear hcb hb7 hcc p0 p1;go_wp2_with fail;refine HK.out.mono ?_;rintro e w8 ⟨kb,rfl,hkb,hb8,hkk⟩;have HB8:Hid (Below w1.heap.size w1 w8):=hid (HB7.out.trans (hb8.mono HB7.out.size));have HCC8:=hid (HCC.out.below hb8 HCC.out.lt);have HKK:=hid hkk;have HLN:Hid ((inKeys ns).length=ns.length/\(counts ns root).length=ns.length):=hid ⟨zd1 hr _ _ (zla hr) (by simp),by unfold counts;rw[zd0,zdz];simp⟩;clear hkb hb8 hkk q0 q1;go_upto_region 15 with fail;go_loop [57] (fun s57=>∃k:Nat,k<=ns.length/\s57=.int .i64 k/\Hid ((List.range k).any (bad2 ns root)=false)) (fun s57=>ns.length-(intOf s57).toNat)
   case atStart=>exact⟨0,by omega,rfl,hid (by simp)⟩
   case round=>
    obtain⟨k,hk,rfl,HV⟩:=hrel;by_cases hkl:k<ns.length
    ·have hklI:(k:Int)<(ns.length:Int):=by omega
     obtain⟨ik,hik⟩:=ex ((inKeys ns).getD k false)
     obtain⟨cv,hcv⟩:=ex ((counts ns root).getD k 0)
     have z0:w8.cell? ⟨kb,k,none⟩=some (.bool ik):=by rw[HKK.out.cell,zau (by rw[HLN.out.1];exact hkl),hik]
     have z1:w8.cell? ⟨cb,k,none⟩=some (.int .i64 (cv:Int)):=by rw[HCC8.out.cell,zad (by rw[HLN.out.2];exact hkl),hcv]
     have HBD:Hid (bad2 ns root k=(ik && cv != 1)):=hid (by unfold bad2;rw[hik,hcv]);have HNX:Hid ((List.range (k+1)).any (bad2 ns root)=(ik && cv != 1)):=hid (by rw[zet,HV.out,HBD.out];rfl);have HNO:Hid ((ik && cv != 1)=true->checkN sclr ns root=3):=hid (fun e=>by
      rw[HCE.out,if_neg (by rw[HA1.out];simp),if_pos];exact List.any_eq_true.2 ⟨k,List.mem_range.2 hkl,by rw[HBD.out,e]⟩)
     clear hik hcv;cases ik with
     |false=>
      clear z1;go_wp2;go_round
      case rel=>exact⟨k+1,by omega,by go_num,hid (by rw[HNX.out];rfl)⟩
      case measure=>simp[intOf];omega
     |true=>
      by_cases hc1:cv=1
      ·subst hc1;go_wp2;go_round
       case rel=>exact⟨k+1,by omega,by go_num,hid (by rw[HNX.out];rfl)⟩
       case measure=>simp[intOf];omega
      ·have hc1I:¬((cv:Int)=1):=by omega
       have hc1b:((cv:Int)==1)=false:=by rw[beq_eq_false_iff_ne];exact hc1I
       have HNO2:Hid (checkN sclr ns root=3):=hid (HNO.out (by simpa using hc1));go_wp2;go_ret;rw[HNO2.out];exact⟨rfl,HBW.out _ HB8.out⟩
    ·have hklI:¬(k:Int)<(ns.length:Int):=by omega
     have hbad:(List.range ns.length).any (bad2 ns root)=false:=by
      have:=HV.out;rwa[show k=ns.length from by omega]at this
     have hone:∀x,x<ns.length->mkd (inKeys ns) x=true->(counts ns root).getD x 0=1:=fun x hx hm=>by
      have:=(List.any_eq_false.1 hbad) x (List.mem_range.2 hx);unfold bad2 at this;unfold mkd at hm;rw[hm]at this;simpa using this
     have htall:=zmr hr hroot HREACH.out hone;have HTW2:=hid (zli ns.length A c (root:Int) vs ns hr hl hks2 (fun x hx y hy W hW=>zok A c (root:Int) vs ns hr HKF.out hl hks ns.length x y W (htall x hx).1 (htall y hy).1 (htall x hx).2 hW) w8 (HGW.out w8 HB8.out));have HBAD:=hid hbad;obtain⟨p0,p1⟩:=HS.out w8 HB8.out;obtain⟨tw,htw⟩:=ex (twice ns ns.length)
     rw[htw]at HTW2;have HTWE:=hid htw;clear hbad hone htall htw;go_wp2_with fail;refine HTW2.out.mono ?_;rintro e w9 ⟨rfl,hb9⟩;have HB9:Hid (Below w1.heap.size w1 w9):=hid (HB8.out.trans (hb9.mono HB8.out.size));clear hb9;cases tw with
     |true=>
      have HNO:Hid (checkN sclr ns root=8):=hid (by rw[HCE.out,if_neg (by rw[HA1.out];simp),if_neg (by rw[HBAD.out];simp),if_pos HTWE.out]);go_wp2;go_ret;rw[HNO.out];exact⟨rfl,HBW.out _ HB9.out⟩
     |false=>
      have HCE2:Hid (checkN sclr ns root=if(depth ns root).1>32 then 5 else 0):=hid (by rw[HCE.out,if_neg (by rw[HA1.out];simp),if_neg (by rw[HBAD.out];simp),if_neg (by rw[HTWE.out];simp)]);have HD:=hid (zgb A c root vs ns hr hl hks2 hroot HREACH.out w9 (HGW.out w9 HB9.out));obtain⟨q0,q1⟩:=HS.out w9 HB9.out;obtain⟨dv,hdv⟩:=ex ((depth ns root).1)
      obtain⟨da,hda⟩:=ex ((depth ns root).2)
      rw[hdv]at HCE2;rw[hdv,hda]at HD;clear hdv hda p0 p1;go_wp2_with fail;refine HD.out.mono ?_;rintro e w10 ⟨rfl,hb10⟩;have HB10:Hid (Below w1.heap.size w1 w10):=hid (HB9.out.trans (hb10.mono HB9.out.size));clear hb10;by_cases hd:dv>32
      ·have HNO:Hid (checkN sclr ns root=5):=hid (by rw[HCE2.out,if_pos hd]);go_wp2;go_ret;rw[HNO.out];exact⟨rfl,HBW.out _ HB10.out⟩
      ·have HNO:Hid (checkN sclr ns root=0):=hid (by rw[HCE2.out,if_neg hd]);go_wp2;go_ret;rw[HNO.out];exact⟨rfl,HBW.out _ HB10.out⟩
def checkI (sclr:Int->Gr.Str->Bool) (is:List Gr.Ni) (root:Int):Nat:=
 if is.length>4096 then 7 else if is.length=0\/indB is root=false then 3 else checkN sclr (is.map Gr.Ni.nd) root.toNat
theorem zec (T:World->Prop) (hT:Stays T) (sclr:Int->Gr.Str->Bool) (A:Option Addr) (c:Nat) (root:Int) (vs:List NV) (is:List Gr.Ni) (hks:NH (is.map Gr.Ni.nd)) (hsc:ScalsOk T sclr (is.map Gr.Ni.nd)) (hl:is.length<=1073741823) (w:World) (hTw:T w) (h:IAt w w.heap.size A vs is):
 Calls prog 14 #[.agg #[.slice A is.length c,.int .i64 root]] w fun e w'=>e=.returned (.int .i64 (checkI sclr is root:Nat))/\Below w.heap.size w w':=by
 by_cases h1:is.length>4096
 ·have HE:Hid (checkI sclr is root=7):=hid (by unfold checkI;rw[if_pos h1]);have h1I:(4096:Int)<(is.length:Int):=by omega
  clear hsc hks hTw h;go_enter func14,ntmps14;go_wp2;go_ret;rw[HE.out];exact⟨rfl,(Below.refl _ _).alloc (Nat.le_refl _) _⟩
 ·have h1I:¬(4096:Int)<(is.length:Int):=by omega
  by_cases h2:is.length=0
  ·have HE:Hid (checkI sclr is root=3):=hid (by unfold checkI;rw[if_neg h1,if_pos (.inl h2)]);obtain rfl:=List.eq_nil_of_length_eq_zero h2;clear hsc hks hTw h h1 h1I h2;go_enter func14,ntmps14;go_wp2;go_ret;rw[HE.out];exact⟨rfl,(Below.refl _ _).alloc (Nat.le_refl _) _⟩
  ·have h2b:((is.length:Int)==0)=false:=by rw[beq_eq_false_iff_ne];omega
   cases hin:indB is root with
   |false=>
    have HE:Hid (checkI sclr is root=3):=hid (by unfold checkI;rw[if_neg h1,if_pos (.inr hin)]);obtain⟨w1,hw1⟩:=ex (w.alloc (.cells #[.slice A is.length c,.int .i64 root] 24))
    have l1:Below w.heap.size w w1:=by rw[<-hw1];exact(Below.refl _ _).alloc (Nat.le_refl _) _
    have hc:=zd7 A c root vs is hl (fun n hn=>by
     have:=hks n.nd (List.mem_map_of_mem hn);simp only[Gr.Ni.nd,List.length_map]at this;exact⟨this.1,this.2.1⟩) w1 ((h.below l1).more l1.size)
    rw[hin]at hc;have HC:=hid hc;have L1:=hid l1;clear hsc hks hTw h hin hc l1;go_enter func14,ntmps14;go_upto_region 1 with fail;have b1:Blk w1 w.heap.size 24 #[.slice A is.length c,.int .i64 root]:=by rw[<-hw1];exact Blk.new _ _ _
    obtain⟨g0,g1⟩:=cells2 b1;(try rw[hw1]);clear hw1 b1;go_wp2_with fail;refine HC.out.mono ?_;rintro e w2 ⟨rfl,hb2⟩;have HB2:=hid (L1.out.trans (hb2.mono L1.out.size));clear hb2;go_wp2;go_ret;rw[HE.out];exact⟨rfl,HB2.out⟩
   |true=>
    have hin2:=hin;unfold indB at hin2;rw[Bool.and_eq_true]at hin2;have hr0:0<=root:=by have:=hin2.1;unfold inR at this;simp at this;exact this.1
    obtain⟨r,rfl⟩:∃r:Nat,root=(r:Int):=⟨root.toNat,by omega⟩
    have:=zj7 T hT sclr A c r vs is (is.map Gr.Ni.nd) rfl (by simp;omega) (by simp;omega) hks hin hsc w hTw h;rw[List.length_map]at this;have e:checkI sclr is (r:Int)=checkN sclr (is.map Gr.Ni.nd) r:=by
     unfold checkI;rw[if_neg h1,if_neg (by rw[hin];simp[h2]),Int.toNat_natCast]
    rw[e];exact this
theorem zha (text:Gr.Str):ScalOk UT 0 text text.isEmpty:=by
 intro w _;have ht:=zhh text;go_enter func42,ntmps42;go_wp2;go_ret;exact⟨rfl,Below.refl _ _⟩
theorem zdu (text:Gr.Str) (hl:text.length<=1073741823):ScalOk UT 2 text (Gr.intB text):=by
 intro w _;have HC:=Lib.hid (fun W=>zdj text hl W);obtain⟨r,hr⟩:=ex (Gr.intB text)
 rw[hr]at HC ⊢;clear hr;go_enter func42,ntmps42;go_wp2_with fail;refine(HC.out _).mono ?_;rintro e w2 ⟨rfl,hb⟩;have HB:=Lib.hid hb;clear hb;go_wp2;go_ret;exact⟨rfl,HB.out⟩
def utfB (s:Gr.Str):Bool:=(Utf.bad s).isNone
theorem zem (text:Gr.Str) (hl:text.length<=1073741823):ScalOk UT 5 text (utfB text):=by
 intro w hw;have HC:=Lib.hid (zfe text hl w hw.1 hw.2 _ rfl);unfold utfB;cases hr:Utf.bad text with
 |none=>
  rw[hr]at HC;unfold ckVal at HC;simp only at HC;clear hr hw;go_enter func42,ntmps42;go_wp2_with fail;refine HC.out.mono ?_;rintro e w2 ⟨rfl,hb⟩;have HB:=Lib.hid hb;clear hb;go_wp2;go_ret;exact⟨rfl,HB.out⟩
 |some i=>
  rw[hr]at HC;unfold ckVal at HC;simp only at HC;clear hr hw;go_enter func42,ntmps42;go_wp2_with fail;refine HC.out.mono ?_;rintro e w2 ⟨rfl,hb⟩;have HB:=Lib.hid hb;clear hb;go_wp2;go_ret;exact⟨rfl,HB.out⟩
theorem infoIntS:(prog.info? 3).map (·.size)=some 1:=by kernel_rfl
theorem zje (l:List Nat):intL.all l=(icells l).toList:=by
 induction l with
 |nil=>rfl
 |cons x l ih=>
  have e1:intL.all (x::l)=.int .i64 (x:Int)::intL.all l:=rfl;rw[e1,ih];simp[icells]
theorem znw (W:World) (B g n c:Nat) (A:Option Addr) (l:List Nat) (ty:TypeId) (hl:l.length=n) (hb:Blk W g 3 (icells (List.replicate n 0))) (hr:RowAt intL W B A l):
 ∃W',(Builtin.copy_ #[33,33] ty #[.slice (some ⟨g,0,none⟩) n n,.slice A n c]).run prog W=.ok (.int .i64 n) W'/\Kept1 g W W'/\Blk W' g 3 (icells l):=by
 by_cases h0:n=0
 ·subst h0;obtain rfl:=List.eq_nil_of_length_eq_zero hl;exact⟨W,run_copy_none (P:=prog) W 33 33 ty 3 _ A 0 0 0 c underlying33 infoIntS rfl,Kept1.refl _ _,hb⟩
 ·obtain⟨ad,rfl,hlt,hc⟩:=hr.2 (by omega);have hall:(intL.all l).length=n:=by rw[Lay.all_len];show l.length*1=n;omega
  have hrun:=run_copy_row (P:=prog) W 33 33 ty 3 g 0 n n ad n c (icells (List.replicate n 0)) 3 (intL.all l) underlying33 infoIntS hb (by rw[hall];exact(Nat.min_self n).symm) hc (by rw[hall];simp[icells]) (intL.all_one l);have e:((icells (List.replicate n 0)).toList.take 0++intL.all l++(icells (List.replicate n 0)).toList.drop (0+(intL.all l).length)).toArray=icells l:=by
   rw[hall];have:intL.all l=(icells l).toList:=by
    exact zje l
   rw[this];simp[icells]
  rw[e,hall]at hrun;exact⟨_,hrun,⟨rfl,rfl,rfl,size_setRow _ _ _,fun k hk=>setRow_other _ _ _ _ hk⟩,setRow_heap _ _ _ _ _ _ hb⟩
theorem znx (l:List Nat) (f:Nat->Nat) (i:Nat) (h:i<l.length):((l.take i).map f++l.drop i).set i (f l[i])=(l.take (i+1)).map f++l.drop (i+1):=by
 have e:((l.take i).map f).length=i:=by simp;omega
 rw[List.drop_eq_getElem_cons h,List.set_append_right _ _ (by rw[e];exact Nat.le_refl _),e,Nat.sub_self,List.set_cons_zero,zal _ _ h,List.map_append];simp
theorem zen (A:Option Addr) (c by_:Nat) (l:List Nat) (hl:l.length<=1073741823) (hx:∀x∈l,x<=1152921504606846976) (hby:by_<=1152921504606846976) (w:World) (B:Nat) (hB:B<=w.heap.size) (h:RowAt intL w B A l):
 Calls prog 83 #[.slice A l.length c,.int .i64 by_] w fun e w'=>e=.returned (.slice (some ⟨w.heap.size,0,none⟩) l.length l.length)/\Below w.heap.size w w'/\Blk w' w.heap.size 3 (icells (l.map (· +by_))):=by
 have hmk:=fun W=>zct l.length (by omega) W
 obtain⟨w1,hw1⟩:=ex (w.alloc (.cells (icells (List.replicate l.length 0)) 3))
 have l1:Below w.heap.size w w1:=by rw[<-hw1];exact(Below.refl _ _).alloc (Nat.le_refl _) _
 have b1:Blk w1 w.heap.size 3 (icells (List.replicate l.length 0)):=by rw[<-hw1];exact Blk.new _ _ _
 obtain⟨w2,hcp,hk2,hb2⟩:=znw w1 B w.heap.size l.length c A l 3 rfl b1 (h.below (l1.mono hB));have HK2:Hid (Below w.heap.size w w2/\Blk w2 w.heap.size 3 (icells l)):=Lib.hid ⟨l1.trans (hk2.below (Nat.le_refl _)),hb2⟩;clear l1 b1 hk2 hb2 h;go_enter func83,ntmps83;go_upto_region 2 with fail;(try rw[hw1]);clear hw1;go_upto_region 3 with fail;obtain⟨g,hg⟩:=ex w.heap.size
 have HG:=Lib.hid hg;rw[hg]at HK2;(try rw[hg]);clear hcp hg;go_upto_region 4 with fail;go_loopw [15] (fun s15 wr=>∃i:Nat,i<=l.length/\s15=.int .i64 i/\Hid (Below g w wr/\Blk wr g 3 (icells ((l.take i).map (· +by_)++l.drop i)))) (fun s15 _=>l.length-(intOf s15).toNat)
 case atStart=>exact⟨0,by omega,rfl,Lib.hid ⟨HK2.out.1,by simpa using HK2.out.2⟩⟩
 case round=>
  obtain⟨i,hi,rfl,HW⟩:=hrel;by_cases hlt:i<l.length
  ·have hltI:(i:Int)<(l.length:Int):=by omega
   obtain⟨x,hxe⟩:=ex (l[i])
   have hxb:x<=1152921504606846976:=by rw[<-hxe];exact hx _ (List.getElem_mem hlt)
   have hgd:((l.take i).map (· +by_)++l.drop i).getD i 0=x:=by
    rw[List.getD_eq_getElem?_getD,List.getElem?_append_right (by simp;omega)];simp[Nat.min_eq_left hi,List.getElem?_eq_getElem hlt,hxe]
   have z0:wr.cell? ⟨g,i,none⟩=some (.int .i64 (x:Int)):=by
    rw[HW.out.2.cell,zad (by simp;omega),hgd]
   have zf:∀j,wr.frozen? ⟨g,j,none⟩=false:=HW.out.2.frozen;have HNX:Hid (Below g w (wr.setCell ⟨g,i,none⟩ (.int .i64 ((x:Int)+(by_:Int))))/\Blk (wr.setCell ⟨g,i,none⟩ (.int .i64 ((x:Int)+(by_:Int)))) g 3 (icells ((l.take (i+1)).map (· +by_)++l.drop (i+1)))):=Lib.hid ⟨HW.out.1.setCell (by simp) _,by
    have h1:=HW.out.2.set_ i (.int .i64 ((x+by_:Nat):Int));rw[zav]at h1;rw[show(x:Int)+(by_:Int)=((x+by_:Nat):Int)from by omega];have e:=znx l (· +by_) i hlt;rw[hxe]at e;rw[e]at h1;exact h1⟩
   clear hgd hxe;go_wp2;go_roundw
   case rel=>exact⟨i+1,by omega,by go_num,HNX⟩
   case measure=>simp[intOf];omega
  ·have hltI:¬(i:Int)<(l.length:Int):=by omega
   have HE:Hid (Below g w wr/\Blk wr g 3 (icells (l.map (· +by_)))):=Lib.hid (by
    have:=HW.out;rw[show i=l.length from by omega,List.take_length,List.drop_length,List.append_nil]at this;exact this)
   go_wp2;go_ret;rw[HG.out];exact⟨rfl,HE.out⟩
def KeptT (t:TypeId) (w w':World):Prop:=∀g cs,Blk w g t cs->Blk w' g t cs
theorem KeptT.refl (t:TypeId) (w:World):KeptT t w w:=fun _ _ h=>h
theorem KeptT.trans {t:TypeId} {a b c:World} (h:KeptT t a b) (k:KeptT t b c):KeptT t a c:=fun g cs x=>k g cs (h g cs x)
theorem KeptT.later {t:TypeId} {w w':World} (h:Below w.heap.size w w'):KeptT t w w':=fun _ _ x=>x.below h x.lt
theorem KeptT.alloc (t:TypeId) (w:World) (o:Obj):KeptT t w (w.alloc o):=fun _ _ x=>x.alloc o
theorem KeptT.drewN (t:TypeId) (w:World) (n:Nat):KeptT t w (w.drewN n):=fun _ _ x=>x
theorem KeptT.drew (t:TypeId) (w:World):KeptT t w w.drew:=fun _ _ x=>x
theorem KeptT.setCell {t t':TypeId} {w:World} {p:Addr} {cs:Array Value} (h:Blk w p.block t' cs) (hne:t≠t') (u:Value):KeptT t w (w.setCell p u):=
 fun _ _ x=>x.far (fun e=>by subst e;exact Blk.ne_ x h hne rfl) u
theorem KeptT.grown {t t':TypeId} {w w':World} {v:Value} {base:Nat} {size n:Nat} {xs:List Value} (hg:w.grownBy w' v.ownBlock) (h:w.ownsRow base t' size v n xs) (hne:t'≠t):KeptT t w w':=
 fun _ _ x=>x.grown hg (fun e=>zbk h x hne e.symm)
section
variable {α:Type} {L:Lay α} {w w':World} {B base:Nat} {E:TypeId} {v:Value} {l:List α}
theorem OwnRow.kept (h:OwnRow L w base E v l) (hk:KeptT E w w'):OwnRow L w' base E v l:=by
 refine⟨h.1,?_⟩;rcases h.2 with hn|⟨g,cap,cur,rfl,hbg,hgg,rest⟩
 ·exact .inl hn
 ·exact .inr ⟨g,cap,cur,rfl,hbg,hk g cur hgg,rest⟩
theorem OwnRow.drew (h:OwnRow L w base E v l):OwnRow L w.drew base E v l:=h
theorem OwnRow.blk (h:OwnRow L w base E v l) (g:Nat) (hg:v.ownBlock=some g):∃cs,Blk w g E cs:=by
 rcases h.2 with⟨rfl,_⟩|⟨g',cap,cur,rfl,hbg,hgg,rest⟩
 ·cases hg
 ·simp[Value.ownBlock]at hg;subst hg;exact⟨cur,hgg⟩
theorem OwnRow.grown_other (h:OwnRow L w base E v l) {row:Option Nat} (hg:w.grownBy w' row) (hne:∀g,v.ownBlock=some g->row≠some g):OwnRow L w' base E v l:=by
 refine⟨h.1,?_⟩;rcases h.2 with hn|⟨g,cap,cur,rfl,hbg,hgg,rest⟩
 ·exact .inl hn
 ·refine .inr ⟨g,cap,cur,rfl,hbg,?_,rest⟩;rw[hg.block g (Blk.lt (t:=E) (cs:=cur) hgg) (fun e=>hne g (by simp[Value.ownBlock]) e.symm)];exact hgg
theorem OwnRow.row (h:OwnRow L w base E v l) (hl:l≠[]):
 ∃g cap rest,v=.slice (some ⟨g,0,none⟩) l.length cap/\l.length<=cap/\Blk w g E (L.all l++rest).toArray/\base<=g/\(∀w' l',l'.length=l.length->Blk w' g E (L.all l'++rest).toArray->OwnRow L w' base E v l'):=by
 rcases h.2 with⟨_,hn⟩|⟨g,cap,cur,hv,hbg,hh,hc,hm,hcs,htk⟩
 ·grind
 ·have hcl:=L.all_len l;have hsplit:cur=(L.all l++cur.toList.drop (l.length*L.sz)).toArray:=by
   grind
  have hle:l.length*L.sz<=cap*L.sz:=Nat.mul_le_mul_right _ hc;refine⟨g,cap,cur.toList.drop (l.length*L.sz),hv,hc,?_,hbg,fun w' l' hl' hS=>?_⟩
  ·unfold Blk;rw[<-hsplit];exact hh
  ·have hcl':=L.all_len l';refine⟨hcl',.inr ⟨g,cap,_,by rw[hl'];exact hv,hbg,hS,by omega,hm,?_,?_⟩⟩
   ·simp only[List.size_toArray,List.length_append,List.length_drop,Array.length_toList];rw[hl']at hcl';omega
   ·simp only;rw[List.take_append_of_le_length (by omega),List.take_of_length_le (by omega)]
end
theorem zpt {α:Type} (L:Lay α) (l:List α) (k j:Nat) (x:α) (u:Value) (hk:k<l.length) (hj:j<L.sz) (he:L.enc x=(L.enc l[k]).set j u):L.all (l.set k x)=(L.all l).set (k*L.sz+j) u:=by
 induction l generalizing k with
 |nil=>simp at hk
 |cons y l ih=>
  cases k with
  |zero=>
   have e1:L.all (x::l)=L.enc x++L.all l:=rfl;have e2:L.all (y::l)=L.enc y++L.all l:=rfl;simp only[List.getElem_cons_zero]at he;simp only[List.set_cons_zero,Nat.zero_mul,Nat.zero_add];rw[e1,e2,he,List.set_append_left _ _ (by rw[L.len];exact hj)]
  |succ k=>
   have e1:L.all (y::l.set k x)=L.enc y++L.all (l.set k x):=rfl;have e2:L.all (y::l)=L.enc y++L.all l:=rfl;rw[List.set_cons_succ,e1,e2,ih k (by simpa using hk) (by simpa using he)];rw[List.set_append_right _ _ (by rw[L.len,Nat.add_mul];omega),L.len];rw[show(k+1)*L.sz+j-L.sz=k*L.sz+j from by rw[Nat.add_mul];omega]
theorem zpu {α:Type} (L:Lay α) {w:World} {g:Nat} {E:TypeId} {l:List α} {rest:List Value} (h:Blk w g E (L.all l++rest).toArray) (k j:Nat) (x:α) (u:Value) (hk:k<l.length) (hj:j<L.sz) (he:L.enc x=(L.enc l[k]).set j u):
 Blk (w.setCell ⟨g,k*L.sz+j,none⟩ u) g E (L.all (l.set k x)++rest).toArray:=by
 have hl:=L.all_len l;have h2:k*L.sz+L.sz<=l.length*L.sz:=by
  have:(k+1)*L.sz<=l.length*L.sz:=Nat.mul_le_mul_right _ hk;rw[Nat.add_mul]at this;omega
 have h5:=h.set_ (k*L.sz+j) u;have e:(L.all l++rest).toArray.setIfInBounds (k*L.sz+j) u=(L.all (l.set k x)++rest).toArray:=by
  apply Array.ext';rw[Array.toList_setIfInBounds,zpt L l k j x u hk hj he];exact List.set_append_left _ _ (by omega)
 rw[e]at h5;exact h5
theorem zkx {w:World} {g:Nat} {l:List NV} {rest:List Value} (h:Blk w g 35 (nodeL.all l++rest).toArray) (k:Nat) (hk:k<l.length) (i:SV):
 Blk (w.setCell ⟨g,k*5+4,none⟩ i.v) g 35 (nodeL.all (l.set k {l[k]with i:=i})++rest).toArray:=
 zpu nodeL h k 4 {l[k]with i:=i} i.v hk (by decide) rfl
def ints (vs:List NV) (j:Nat) (b:Bool):SV:=match vs[j]? with
 |some x=>if b then x.i else x.k
 |none=>SV.nil
def intsOf (ns:List Gr.Nd) (j:Nat) (b:Bool):List Nat:=match ns[j]? with
 |some m=>if b then m.items else m.keys
 |none=>[]
structure Rows (B:Nat) (w:World) (vs:List NV) (ns:List Gr.Nd):Prop where
 len:vs.length=ns.length
 kind:∀j (h:j<vs.length) (h2:j<ns.length),vs[j].kind=ns[j].kind/\vs[j].text=ns[j].text/\vs[j].ord=ns[j].ord
 own:∀j b,OwnRow intL w B 3 (ints vs j b).v (intsOf ns j b)
 apart:∀j b j' b' g,(ints vs j b).v.ownBlock=some g->(ints vs j' b').v.ownBlock=some g->j=j'/\b=b'
theorem Rows.kept {B:Nat} {w w':World} {vs:List NV} {ns:List Gr.Nd} (h:Rows B w vs ns) (hk:KeptT 3 w w'):Rows B w' vs ns:=
 ⟨h.len,h.kind,fun j b=>(h.own j b).kept hk,h.apart⟩
theorem zhc (vs:List NV) (x:NV) (j:Nat) (b:Bool):ints (vs++[x]) j b=if j=vs.length then(if b then x.i else x.k)else ints vs j b:=by
 unfold ints;by_cases hj:j<vs.length
 ·grind
 ·grind
theorem zib (ns:List Gr.Nd) (x:Gr.Nd) (j:Nat) (b:Bool):intsOf (ns++[x]) j b=if j=ns.length then(if b then x.items else x.keys)else intsOf ns j b:=by
 unfold intsOf;by_cases hj:j<ns.length
 ·grind
 ·grind
theorem Rows.snoc {B:Nat} {w:World} {vs:List NV} {ns:List Gr.Nd} (h:Rows B w vs ns) (x:NV) (m:Gr.Nd) (hx:x.kind=m.kind/\x.text=m.text/\x.ord=m.ord) (ok:OwnRow intL w B 3 x.k.v m.keys) (oi:OwnRow intL w B 3 x.i.v m.items)
 (hki:∀g,x.k.v.ownBlock=some g->x.i.v.ownBlock=some g->False) (hold:∀j b g,(ints vs j b).v.ownBlock=some g->x.k.v.ownBlock≠some g/\x.i.v.ownBlock≠some g):Rows B w (vs++[x]) (ns++[m]):=by
 have hlen:=h.len;refine⟨by simp[hlen],?_,?_,?_⟩
 ·intro j h1 h2;by_cases hj:j<vs.length
  ·rw[List.getElem_append_left hj,List.getElem_append_left (by omega)];exact h.kind j hj (by omega)
  ·grind
 ·intro j b;rw[zhc,zib,<-hlen];by_cases hj:j=vs.length
  ·grind
  ·rw[if_neg hj,if_neg hj];exact h.own j b
 ·intro j b j' b' g h1 h2;rw[zhc]at h1 h2;by_cases hj:j=vs.length
  ·grind
  ·rw[if_neg hj]at h1;by_cases hj':j'=vs.length
   ·grind
   ·rw[if_neg hj']at h2;exact h.apart j b j' b' g h1 h2
theorem Rows.grow {B:Nat} {w w':World} {vs:List NV} {ns:List Gr.Nd} (h:Rows B w vs ns) (j:Nat) (b:Bool) (x:NV) (m:Gr.Nd) (hj:j<vs.length)
 (hx:x.kind=vs[j].kind/\x.text=vs[j].text/\x.ord=vs[j].ord) (hm:m.kind=(ns[j]'(by rw[<-h.len];exact hj)).kind/\m.text=(ns[j]'(by rw[<-h.len];exact hj)).text/\m.ord=(ns[j]'(by rw[<-h.len];exact hj)).ord)
 (hb:(if b then x.k else x.i)=ints vs j (!b)) (hbm:(if b then m.keys else m.items)=intsOf ns j (!b))
 (hown:OwnRow intL w' B 3 (if b then x.i else x.k).v (if b then m.items else m.keys)) (hg:w.grownBy w' (ints vs j b).v.ownBlock)
 (hat:(if b then x.i else x.k).v.ownBlock=(ints vs j b).v.ownBlock\/(if b then x.i else x.k).v.ownBlock=some w.heap.size):Rows B w' (vs.set j x) (ns.set j m):=by
 have hlen:=h.len;have hjn:j<ns.length:=by omega
 have e1:∀j' b',ints (vs.set j x) j' b'=if j'=j then(if b' then x.i else x.k)else ints vs j' b':=by
  intro j' b';unfold ints;by_cases he:j'=j
  ·grind
  ·grind
 have e2:∀j' b',intsOf (ns.set j m) j' b'=if j'=j then(if b' then m.items else m.keys)else intsOf ns j' b':=by
  intro j' b';unfold intsOf;by_cases he:j'=j
  ·grind
  ·grind
 have e3:∀j' b',¬(j'=j/\b'=b)->ints (vs.set j x) j' b'=ints vs j' b'/\intsOf (ns.set j m) j' b'=intsOf ns j' b':=by
  grind
 refine⟨by simp[hlen],?_,?_,?_⟩
 ·intro j' h1 h2;by_cases he:j=j'
  ·subst he;rw[List.getElem_set_self,List.getElem_set_self];have:=h.kind j hj hjn;exact⟨by rw[hx.1,hm.1,this.1],by rw[hx.2.1,hm.2.1,this.2.1],by rw[hx.2.2,hm.2.2,this.2.2]⟩
  ·rw[List.getElem_set_ne he,List.getElem_set_ne he];exact h.kind j' (by simpa using h1) (by simpa using h2)
 ·intro j' b';by_cases hc:j'=j/\b'=b
  ·grind
  ·rw[(e3 j' b' hc).1,(e3 j' b' hc).2];exact(h.own j' b').grown_other hg (fun g hg1 hg2=>hc (h.apart j' b' j b g hg1 hg2))
 ·have hnew:∀j' b' g,¬(j'=j/\b'=b)->(ints vs j' b').v.ownBlock=some g->(if b then x.i else x.k).v.ownBlock=some g->False:=by
   intro j' b' g hc h1 h2;rcases hat with h3|h3
   ·rw[h3]at h2;exact hc (h.apart j' b' j b g h1 h2)
   ·rw[h3]at h2;injection h2 with h2
    have:=(h.own j' b').lt g h1;omega
  intro j1 b1 j2 b2 g h1 h2;by_cases hc1:j1=j/\b1=b
  ·grind
  ·rw[(e3 j1 b1 hc1).1]at h1;by_cases hc2:j2=j/\b2=b
   ·grind
   ·rw[(e3 j2 b2 hc2).1]at h2;exact h.apart j1 b1 j2 b2 g h1 h2
theorem Rows.later {B:Nat} {w w':World} {vs:List NV} {ns:List Gr.Nd} (h:Rows B w vs ns) (hb:Below w.heap.size w w'):Rows B w' vs ns:=h.kept (KeptT.later hb)
theorem Rows.nil (B:Nat) (w:World):Rows B w [] []:=
 ⟨rfl,fun j h=>by simp at h,fun j b=>by simp[ints,intsOf,SV.nil,SV.v];exact OwnRow.nil,fun j b j' b' g h=>by simp[ints,SV.nil,SV.v,Value.ownBlock]at h⟩
structure Tab (B:Nat) (w:World) (v:Value) (vs:List NV) (ns:List Gr.Nd):Prop where
 row:OwnRow nodeL w B 35 v vs
 rows:Rows B w vs ns
theorem Tab.later {B:Nat} {w w':World} {v:Value} {vs:List NV} {ns:List Gr.Nd} (h:Tab B w v vs ns) (hb:Below w.heap.size w w'):Tab B w' v vs ns:=⟨h.row.later hb,h.rows.later hb⟩
theorem SV.row {w:World} {B:Nat} {x:SV} {l:List Nat} (h:OwnRow intL w B 3 x.v l):RowAt intL w w.heap.size x.a l/\x.n=l.length:=by
 obtain⟨A,c,hv,hr⟩:=h.form;unfold SV.v at hv;injection hv with e1 e2 e3
 subst e1;exact⟨hr,e2⟩
theorem Tab.at_ {B:Nat} {w:World} {v:Value} {vs:List NV} {ns:List Gr.Nd} (h:Tab B w v vs ns):∃A c,v=.slice A ns.length c/\GAt w w.heap.size A vs ns:=by
 obtain⟨A,c,hv,hr⟩:=h.row.form;refine⟨A,c,by rw[hv,h.rows.len],hr,h.rows.len,h.rows.kind,fun j h1 h2=>?_⟩;have ek:(ints vs j false)=vs[j].k:=by unfold ints;rw[List.getElem?_eq_getElem h1];rfl
 have ei:(ints vs j true)=vs[j].i:=by unfold ints;rw[List.getElem?_eq_getElem h1];rfl
 have fk:(intsOf ns j false)=ns[j].keys:=by unfold intsOf;rw[List.getElem?_eq_getElem h2];rfl
 have fi:(intsOf ns j true)=ns[j].items:=by unfold intsOf;rw[List.getElem?_eq_getElem h2];rfl
 have o1:=h.rows.own j false;have o2:=h.rows.own j true;rw[ek,fk]at o1;rw[ei,fi]at o2;exact⟨(SV.row o1).1,(SV.row o1).2,(SV.row o2).1,(SV.row o2).2⟩
end Go.Proofs.YtoigpackhninoaaGreatDoor

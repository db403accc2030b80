import Derived.Test.YtoigpackhninoaaGreatDoorGrSame
import Derived.Test.YtoigpackhninoaaGreatDoorZ23
namespace Go.Proofs.YtoigpackhninoaaGreatDoor
namespace Gr
theorem zpf (L:List Nat):∀(l:List Nat) (x:Nat),x<l.length->(L.foldl cstep l).getD x 0=l.getD x 0+L.count x:=by
 induction L with
 |nil=>intro l x _;simp
 |cons y L ih=>
  intro l x a;rw[List.foldl_cons,ih (cstep l y) x (by unfold cstep;simpa using a)];unfold cstep;by_cases h:y=x
  ·grind
  ·grind
theorem zdv {ns:List Nd} {root x:Nat} (hx:x<ns.length):(counts ns root).getD x 0=(if x=root then 1 else 0)+(refs ns).count x:=by
 unfold counts;rw[zpf _ _ _ (by unfold cstep;simpa using hx)]
 congr 1
 unfold cstep;have e:∀y,(List.replicate ns.length 0).getD y 0=0:=fun y=>by simp[List.getD_eq_getElem?_getD,List.getElem?_replicate];split<;>rfl
 by_cases h:x=root
 ·grind
 ·grind
theorem zjo (a b:List Nd):refs (a++b)=refs a++refs b:=by unfold refs;rw[List.flatMap_append]
theorem zsu {ns:List Nd} {a b:Nat} (ha:a<ns.length) (hb:b∈succ ns a):b∈refs ns:=by
 unfold succ at hb;rw[List.getElem?_eq_getElem ha]at hb;exact List.mem_flatMap.2 ⟨_,List.getElem_mem ha,hb⟩
theorem zkt {ns:List Nd} {a p b:Nat} (hap:p<a) (ha:a<ns.length) (h1:b∈succ ns a) (h2:b∈succ ns p):2<=(refs ns).count b:=by
 have e:refs ns=refs (ns.take a)++refs (ns.drop a):=by rw[<-zjo,List.take_append_drop]
 rw[e,List.count_append];have d:b∈refs (ns.take a):=by
  unfold succ at h2;rw[List.getElem?_eq_getElem (by omega)]at h2;refine List.mem_flatMap.2 ⟨ns[p],?_,h2⟩;rw[List.mem_take_iff_getElem];exact⟨p,by omega,rfl⟩
 have c:b∈refs (ns.drop a):=by
  unfold succ at h1;rw[List.getElem?_eq_getElem ha]at h1;refine List.mem_flatMap.2 ⟨ns[a],?_,h1⟩;rw[List.mem_drop_iff_getElem];exact⟨0,by omega,by simp⟩
 have:=List.count_pos_iff.2 d;have:=List.count_pos_iff.2 c;omega
section
variable {ns:List Nd} {root:Nat}
theorem Reach.last {sc:Nat->List Nat} {a b:Nat} (h:Reach sc a b):a=b\/∃p,Reach sc a p/\b∈sc p:=by
 induction h with
 |refl=>exact .inl rfl
 |step h1 h2 ih=>
  rcases ih with rfl|⟨p,h3,h4⟩
  ·exact .inr ⟨_,.refl _,h1⟩
  ·exact .inr ⟨p,.step h1 h3,h4⟩
theorem zgx (hr:Refs ns) (hroot:root<ns.length) (hall:∀v,v<ns.length->Reach (succ ns) root v) (hone:∀x,x<ns.length->mkd (inKeys ns) x=true->(counts ns root).getD x 0=1) {i x:Nat} (hi:i<ns.length) (hk:mkd (inKeys ns) i=true) (hx:x∈succ ns i):¬Reach (succ ns) x i:=by
 intro A;have q:∀a,a<ns.length->∀b,Reach (succ ns) a b->b<ns.length:=fun a u b h=>h.closed (p:=fun a=>a<ns.length) (fun a _ b l=>hr.succ a b l) u
 have n:∀j,Reach (succ ns) i j->mkd (inKeys ns) j=true:=fun j B=>by
  obtain⟨k,c,f⟩:=(zat hr i).1 hk;exact(zat hr j).2 ⟨k,c,f.trans B⟩
 have d:∀j,Reach (succ ns) i j->Reach (succ ns) j i->∃p,Reach (succ ns) i p/\Reach (succ ns) p i/\j∈succ ns p:=by
  intro j c f;have g:Reach (succ ns) x j:=A.trans c;rcases g.last with h4|⟨p,h4,h5⟩
  ·subst h4;exact⟨i,.refl _,.refl _,hx⟩
  ·exact⟨p,.step hx h4,.step h5 f,h5⟩
 have m:¬(Reach (succ ns) i i/\Reach (succ ns) i i):=by
  have s:∀v,Reach (succ ns) root v->¬(Reach (succ ns) i v/\Reach (succ ns) v i):=by
   intro v z;refine z.closed (p:=fun v=>¬(Reach (succ ns) i v/\Reach (succ ns) v i)) ?_ ?_
   ·rintro a u b l ⟨c,f⟩;obtain⟨p,g,h4,h5⟩:=d b c f;have o:=hr.succ a b l;have t:a≠p:=fun e=>u (e▸⟨g,h4⟩)
    have w:=q i hi p g;have r:a<ns.length:=by
     unfold succ at l;rcases Nat.lt_or_ge a ns.length with h|h
     ·exact h
     ·grind
    have y:=hone b o (n b c);rw[zdv o]at y;have:2<=(refs ns).count b:=by
     rcases Nat.lt_or_gt_of_ne t with h|h
     ·exact zkt h w h5 l
     ·exact zkt h r l h5
    omega
   ·rintro⟨c,f⟩;obtain⟨p,g,h4,h5⟩:=d root c f;have y:=hone root hroot (n root c);rw[zdv hroot,if_pos rfl]at y;have:=List.count_pos_iff.2 (zsu (q i hi p g) h5);omega
  exact s i (hall i hi)
 exact m ⟨.refl _,.refl _⟩
open Classical in
theorem zvo (hr:Refs ns) (hroot:root<ns.length) (hall:∀v,v<ns.length->Reach (succ ns) root v) (hone:∀x,x<ns.length->mkd (inKeys ns) x=true->(counts ns root).getD x 0=1):∀(f i:Nat),i<ns.length->mkd (inKeys ns) i=true->(List.range ns.length).countP (fun j=>decide (Reach (succ ns) i j))<=f->Tall ns f i:=by
 intro f
 induction f with
 |zero=>
  intro i a _ h;have:0<(List.range ns.length).countP (fun j=>decide (Reach (succ ns) i j)):=List.countP_pos_iff.2 ⟨i,List.mem_range.2 a,by simpa using Reach.refl i⟩;omega
 |succ f ih=>
  intro i a e h x b;have c:=hr.succ i x b;have d:mkd (inKeys ns) x=true:=by
   obtain⟨k,l,g⟩:=(zat hr i).1 e;exact(zat hr x).2 ⟨k,l,g.trans (.one b)⟩
  refine ih x c d ?_;have:=zc9 (fun j=>decide (Reach (succ ns) x j)) (fun j=>decide (Reach (succ ns) i j)) (List.range ns.length) (fun j _ m=>by simpa using Reach.step b (by simpa using m)) i (List.mem_range.2 a) (by simpa using zgx hr hroot hall hone a e b) (by simpa using Reach.refl i);omega
theorem ze3 (hr:Refs ns) (hroot:root<ns.length) (hall:∀v,v<ns.length->Reach (succ ns) root v) (hone:∀x,x<ns.length->mkd (inKeys ns) x=true->(counts ns root).getD x 0=1):∀k∈allKeys ns,k<ns.length/\Tall ns ns.length k:=by
 intro k c;have a:k<ns.length:=by
  obtain⟨y,d,b⟩:=List.mem_flatMap.1 c;exact hr y d k (List.mem_append_left _ b)
 exact⟨a,zvo hr hroot hall hone _ k a ((zat hr k).2 ⟨k,c,.refl _⟩) (Nat.le_trans List.countP_le_length (by simp))⟩
end
end Gr
open Gr
open _root_.Go.Proofs.Tryz
open _root_.Go.Lib (hid)
set_option maxRecDepth 100000
set_option maxHeartbeats 16000000
open Go.RowKit
def NH (ns:List Gr.Nd):Prop:=∀n∈ns,n.keys.length<=1073741823/\n.items.length<=1073741823/\n.text.length<=1073741823
theorem zl8 (ns:List Gr.Nd) (h:NH ns):(Gr.refs ns).length<=ns.length*2147483646:=by
 induction ns with
 |nil=>simp[Gr.refs]
 |cons x l ih=>
  have h1:=ih (fun n a=>h n (.tail _ a));obtain⟨h2,h3,_⟩:=h x (.head _);have e:Gr.refs (x::l)=(x.keys++x.items)++Gr.refs l:=rfl;rw[e,List.length_append,List.length_append,List.length_cons,Nat.add_mul];omega
theorem zpg {ns:List Gr.Nd} {i:Nat} (h:i<ns.length):ns.getD i ⟨0,[],false,[],[]⟩=ns[i]:=by
 rw[List.getD_eq_getElem?_getD,List.getElem?_eq_getElem h];rfl
theorem zfo (k:Nat) (f:Nat->Bool):(List.range (k+1)).all f=((List.range k).all f && f k):=by
 rw[List.range_succ,List.all_append];simp
theorem zfp (k:Nat) (f:Nat->Bool):(List.range (k+1)).any f=((List.range k).any f || f k):=by
 rw[List.range_succ,List.any_append];simp
def ScalsOk (T:World->Prop) (sclr:Int->Gr.Str->Bool) (ns:List Gr.Nd):Prop:=∀x∈ns,x.kind≠9->x.kind≠10->x.kind≠11->x.ord=false->x.keys=[]->x.items=[]->ScalOk T x.kind x.text (sclr x.kind x.text)
section
variable (sclr:Int->Gr.Str->Bool) (ns:List Gr.Nd) (root:Nat)
def ok1 (i:Nat):Bool:=(marks ns root).getD i false && formB sclr (ns.getD i ⟨0,[],false,[],[]⟩)
def bad2 (i:Nat):Bool:=(inKeys ns).getD i false && (counts ns root).getD i 0 != 1
theorem zph:checkN sclr ns root=if(List.range ns.length).all (ok1 sclr ns root)=false then 3 else if(List.range ns.length).any (bad2 ns root)=true then 3 else if twice ns ns.length=true then 8 else if(depth ns root).1>32 then 5 else 0:=by
 unfold checkN;have a:(List.range ns.length).all (ok1 sclr ns root)=(List.range ns.length).all (fun i=>(marks ns root).getD i false && formB sclr (ns.getD i ⟨0,[],false,[],[]⟩)):=rfl;have b:(List.range ns.length).any (bad2 ns root)=(List.range ns.length).any (fun i=>(inKeys ns).getD i false && (counts ns root).getD i 0 != 1):=rfl;rw[a,b];cases(List.range ns.length).all (fun i=>(marks ns root).getD i false && formB sclr (ns.getD i ⟨0,[],false,[],[]⟩))<;>simp
end
theorem zyh {sclr:Int->Gr.Str->Bool} {ns:List Gr.Nd} {root:Nat} (h:(List.range ns.length).all (ok1 sclr ns root)=true):Gr.KF ns/\(∀i,i<ns.length->mkd (marks ns root) i=true):=by
 rw[List.all_eq_true]at h;refine⟨fun n e d=>?_,fun i b=>?_⟩
 ·obtain⟨i,b,rfl⟩:=List.getElem_of_mem e;have a:=h i (List.mem_range.2 b);unfold ok1 at a;rw[zpg b,Bool.and_eq_true]at a;have c:=a.2;unfold formB at c;rw[d]at c;simp at c;exact c.2
 ·have a:=h i (List.mem_range.2 b);unfold ok1 at a;rw[Bool.and_eq_true]at a;exact a.1
theorem zl9 (T:World->Prop) (hT:Stays T) (sclr:Int->Gr.Str->Bool) (A:Option Addr) (c root:Nat) (vs:List NV) (is:List Gr.Ni) (ns:List Gr.Nd) (hns:is.map Gr.Ni.nd=ns) (hn0:0<ns.length) (hn:ns.length<=4096) (hks:NH ns) (hin:indB is (root:Int)=true)
 (hsc:ScalsOk T sclr ns) (w:World) (hTw:T w) (h:IAt w w.heap.size A vs is):
 Calls prog 14 #[.agg #[.slice A ns.length c,.int .i64 root]] w fun e w'=>e=.returned (.int .i64 (checkN sclr ns root:Nat))/\Below w.heap.size w w':=by
 have ab:is.length=ns.length:=by rw[<-hns];simp
 have ay:=hin;unfold indB at hin;rw[Bool.and_eq_true]at hin;have b:root<ns.length:=by
  have:=hin.1;unfold inR at this;simp at this;omega
 obtain⟨h0,B⟩:=zbu hin.2;rw[hns]at B;have hG:GAt w w.heap.size A vs ns:=by rw[<-hns];exact h.toG h0
 have l:∀n∈ns,n.keys.length<=1073741823/\n.items.length<=1073741823:=fun n hn=>⟨(hks n hn).1,(hks n hn).2.1⟩
 have hl:ns.length<=1073741823:=by omega
 have aE:Hid (∀W,Below w.heap.size w W->Calls prog 33 #[.agg #[.slice A ns.length c,.int .i64 (root:Int)]] W fun e w'=>e=.returned (.bool true)/\Below W.heap.size W w'):=hid (fun W C=>by
  have:=ze2 A c (root:Int) vs is (by omega) (fun n D=>by
   have:=hks n.nd (by rw[<-hns];exact List.mem_map_of_mem D);simp only[Gr.Ni.nd,List.length_map]at this;exact⟨this.1,this.2.1⟩) W ((h.below C).more C.size)
  rw[ab,ay]at this;exact this)
 have HG:=hid hG;have hmk:=fun W=>zb0 ns.length (by omega) W
 have aX:=hid hTw;have hnI:(ns.length:Int)<=4096:=by omega
 have hn0I:(0:Int)<(ns.length:Int):=by omega
 have hn0b:((ns.length:Int)==0)=false:=by rw[beq_eq_false_iff_ne];omega
 have a0:=hid hsc;have U:=hid (zph sclr ns root);clear hns hin ay h0 hG hTw h hsc ab;go_enter func14,ntmps14;go_upto_region 1 with fail;obtain⟨a,S⟩:=ex (w.alloc (.cells #[.slice A ns.length c,.int .i64 root] 24))
 (try rw[S]);have P:Below w.heap.size w a:=by rw[<-S];exact(Below.refl _ _).alloc (Nat.le_refl _) _
 have b1:Blk a w.heap.size 24 #[.slice A ns.length c,.int .i64 root]:=by rw[<-S];exact Blk.new _ _ _
 obtain⟨gb,X⟩:=ex w.heap.size
 have HGB:=hid X;have L1:=hid P;(try rw[X]);rw[X]at b1;have HB1:=hid b1;have HS:Hid (∀W,Below a.heap.size a W->W.cell? ⟨gb,0,none⟩=some (.slice A ns.length c)/\W.cell? ⟨gb,1,none⟩=some (.int .i64 (root:Int))):=hid (fun W C=>⟨(b1.below C b1.lt).cell 0,(b1.below C b1.lt).cell 1⟩);have HGL:Hid (gb<a.heap.size):=hid b1.lt;have H:Hid (∀W,Below a.heap.size a W->GAt W W.heap.size A vs ns):=hid (fun W C=>(HG.out.below (P.trans (C.mono P.size))).more (P.trans (C.mono P.size)).size);have f:Hid (∀W,Below a.heap.size a W->Below w.heap.size w W):=hid (fun W C=>P.trans (C.mono P.size));have aL:=aE.out a P;have bc:=hid aL;obtain⟨g0,g1⟩:=HS.out a (Below.refl _ _);clear S X P b1 aL;go_wp2_with fail;refine bc.out.mono ?_;rintro e w2 ⟨rfl,av⟩;obtain⟨p0,p1⟩:=HS.out w2 av;have au:=hid av;clear g0 g1 av;go_upto_region 6 with fail;obtain⟨w3,M⟩:=ex (w2.alloc (.cells (bcells (List.replicate ns.length false)) 4))
 obtain⟨V,Q⟩:=ex w2.heap.size
 have l3:Below a.heap.size a w3:=by rw[<-M];exact au.out.alloc au.out.size _
 have b3:Blk w3 V 4 (bcells (List.replicate ns.length false)):=by rw[<-M,<-Q];exact Blk.new _ _ _
 have Y:a.heap.size<=V:=by rw[<-Q];exact au.out.size
 have HR:=hid (zer V A c (root:Int) vs ns w.heap.size B hl l (List.replicate ns.length false) root w3 (HG.out.below (f.out w3 l3)) (by have:=L1.out.size;omega) b3 (by simp) b (zdq _));have HB3:=hid b3;have L3:=hid l3;have aY:=hid Y;rw[M];(try rw[Q]);obtain⟨q0,q1⟩:=HS.out w3 l3;clear M Q l3 b3 p0 p1 Y;go_wp2_with fail;refine HR.out.mono ?_;rintro e R ⟨rfl,aI,aO⟩;have ap:Below a.heap.size a R:=L3.out.trans (KB.below (g:=V) aI aY.out L3.out.size);have aS:Hid (Blk R V 4 (bcells (marks ns root))):=hid aO;have bb:Hid ((marks ns root).length=ns.length):=hid (zbo B.succ ns.length (List.replicate ns.length false) root (by simp) b (zdq _)).len;have L4:=hid ap;obtain⟨p0,p1⟩:=HS.out R ap;clear aI aO ap q0 q1;go_upto_region 8 with fail;clear p0 p1;go_loopw [36] (fun s36 wr=>∃i:Nat,i<=ns.length/\s36=.int .i64 i/\Hid (Below a.heap.size a wr/\Below R.heap.size R wr/\(List.range i).all (ok1 sclr ns root)=true)) (fun s36 _=>ns.length-(intOf s36).toNat)
 case atStart=>exact⟨0,by omega,rfl,hid ⟨L4.out,Below.refl _ _,by simp⟩⟩
 case round=>
  obtain⟨i,hi,rfl,t⟩:=hrel;obtain⟨m,a8⟩:∃m,m=wr:=⟨_,rfl⟩
  subst a8;by_cases hlt:i<ns.length
  ·have aG:(i:Int)<(ns.length:Int):=by omega
   obtain⟨ad,ks,is,rfl,O⟩:=(H.out m t.out.1).node hlt;obtain⟨ka,kn,kc⟩:=ks;obtain⟨ia,aW,ic⟩:=is;have D:ns[i]∈ns:=List.getElem_mem hlt;obtain⟨z,aC,aQ⟩:=hks _ D;have ah:=hid (a0.out _ D);have an:Hid (ok1 sclr ns root i=((marks ns root).getD i false && formB sclr ns[i])):=hid (by unfold ok1;rw[zpg hlt]);obtain⟨n,hn⟩:=ex (ns[i])
   rw[hn]at O z aC aQ ah an;obtain rfl:kn=n.keys.length:=O.kn;obtain rfl:aW=n.items.length:=O.inn;have x0:=O.c0;have x1:=O.c1;have x2:=O.c2;have x3:=O.c3;have x4:=O.c4;obtain⟨mk,s⟩:=ex ((marks ns root).getD i false)
   have aw:Blk m V 4 (bcells (marks ns root)):=aS.out.below t.out.2.1 aS.out.lt;have m0:m.cell? ⟨V,i,none⟩=some (.bool mk):=by rw[aw.cell,zah (by rw[bb.out];exact hlt),s]
   have J:Hid ((List.range (i+1)).all (ok1 sclr ns root)=(mk && formB sclr n)):=hid (by rw[zfo,t.out.2.2,an.out,s];rfl);have d:Hid ((mk && formB sclr n)=false->checkN sclr ns root=3):=hid (fun e=>by
    rw[U.out,if_pos];rw[List.all_eq_false];exact⟨i,List.mem_range.2 hlt,by rw[an.out,s,e];simp⟩)
   have L:Below m.heap.size m (m.alloc (.cells #[.int .i64 n.kind,.string ⟨n.text.toArray⟩,.bool n.ord,.slice ka n.keys.length kc,.slice ia n.items.length ic] 35)):=(Below.refl _ _).alloc (Nat.le_refl _) _;have HF:=hid (zsm T hT sclr n.kind n.text n.ord n.keys n.items ka ia kc ic aQ z aC (fun a1 a2 a3 a4 a5 a6=>ah.out a1 a2 a3 a4 a5 a6) _ (hT _ _ aX.out ((f.out m t.out.1).trans (L.mono (f.out m t.out.1).size))));have m1:(m.alloc (.cells #[.int .i64 n.kind,.string ⟨n.text.toArray⟩,.bool n.ord,.slice ka n.keys.length kc,.slice ia n.items.length ic] 35)).cell? ⟨V,i,none⟩=some (.bool mk):=(L.cell (p:=⟨V,i,none⟩) aw.lt).trans m0;obtain⟨fb,aj⟩:=ex (formB sclr n)
   rw[aj]at J d;have aP:formB sclr ⟨n.kind,n.text,n.ord,n.keys,n.items⟩=fb:=aj;rw[aP]at HF;have E:Hid (Below a.heap.size a (m.alloc (.cells #[.int .i64 n.kind,.string ⟨n.text.toArray⟩,.bool n.ord,.slice ka n.keys.length kc,.slice ia n.items.length ic] 35))/\Below R.heap.size R (m.alloc (.cells #[.int .i64 n.kind,.string ⟨n.text.toArray⟩,.bool n.ord,.slice ka n.keys.length kc,.slice ia n.items.length ic] 35))):=hid ⟨t.out.1.trans (L.mono t.out.1.size),t.out.2.1.trans (L.mono t.out.2.1.size)⟩;clear O D hn aw s aj aP L;cases mk with
   |false=>
    go_wp2;go_ret;rw[d.out rfl];exact⟨rfl,f.out _ E.out.1⟩
   |true=>
    clear m0;go_wp2_with fail;refine HF.out.mono ?_;rintro e w6 ⟨rfl,al⟩;have ao:Hid (Below a.heap.size a w6/\Below R.heap.size R w6):=hid ⟨E.out.1.trans (al.mono E.out.1.size),E.out.2.trans (al.mono E.out.2.size)⟩;clear al;cases fb with
    |false=>
     go_wp2;go_ret;rw[d.out rfl];exact⟨rfl,f.out _ ao.out.1⟩
    |true=>
     go_wp2;go_roundw
     case rel=>exact⟨i+1,by omega,by go_num,hid ⟨ao.out.1,ao.out.2,by rw[J.out];rfl⟩⟩
     case measure=>simp[intOf];omega
  ·have aG:¬(i:Int)<(ns.length:Int):=by omega
   have o:(List.range ns.length).all (ok1 sclr ns root)=true:=by
    have:=t.out.2.2;rwa[show i=ns.length from by omega]at this
   obtain⟨aA,q⟩:=zyh o;have r:∀v,v<ns.length->Gr.Reach (Gr.succ ns) root v:=fun v hv=>(zbb B b v).1 (q v hv)
   have aV:=hid aA;have u:=hid r;have ai:=hid o;have HC:=hid (zlm A c root vs ns B hl l (by have:=zl8 ns hks;omega) m (H.out m t.out.1) b);obtain⟨p0,p1⟩:=HS.out m t.out.1;clear aA q r o;go_upto_region 13 with fail;go_wp2_with fail;refine HC.out.mono ?_;rintro e w7 ⟨cb,rfl,ba,aH,aJ⟩;have N:Hid (Below a.heap.size a w7):=hid (t.out.1.trans (aH.mono t.out.1.size));have aK:=hid aJ;have HK:=hid (zln A c (root:Int) vs ns B hl l w7 (H.out w7 N.out));obtain⟨q0,q1⟩:=HS.out w7 N.out;clear ba aH aJ p0 p1;go_wp2_with fail;refine HK.out.mono ?_;rintro e w8 ⟨kb,rfl,aZ,aq,aU⟩;have I:Hid (Below a.heap.size a w8):=hid (N.out.trans (aq.mono N.out.size));have az:=hid (aK.out.below aq aK.out.lt);have a7:=hid aU;have aN:Hid ((inKeys ns).length=ns.length/\(counts ns root).length=ns.length):=hid ⟨zes B _ _ (zi5 B) (by simp),by unfold counts;rw[zb1,zcd];simp⟩;clear aZ aq aU q0 q1;go_upto_region 15 with fail;go_loop [57] (fun s57=>∃k:Nat,k<=ns.length/\s57=.int .i64 k/\Hid ((List.range k).any (bad2 ns root)=false)) (fun s57=>ns.length-(intOf s57).toNat)
   case atStart=>exact⟨0,by omega,rfl,hid (by simp)⟩
   case round=>
    obtain⟨k,hk,rfl,HV⟩:=hrel;by_cases z:k<ns.length
    ·have aM:(k:Int)<(ns.length:Int):=by omega
     obtain⟨ik,am⟩:=ex ((inKeys ns).getD k false)
     obtain⟨cv,ar⟩:=ex ((counts ns root).getD k 0)
     have z0:w8.cell? ⟨kb,k,none⟩=some (.bool ik):=by rw[a7.out.cell,zah (by rw[aN.out.1];exact z),am]
     have z1:w8.cell? ⟨cb,k,none⟩=some (.int .i64 (cv:Int)):=by rw[az.out.cell,zad (by rw[aN.out.2];exact z),ar]
     have aD:Hid (bad2 ns root k=(ik && cv != 1)):=hid (by unfold bad2;rw[am,ar]);have J:Hid ((List.range (k+1)).any (bad2 ns root)=(ik && cv != 1)):=hid (by rw[zfp,HV.out,aD.out];rfl);have d:Hid ((ik && cv != 1)=true->checkN sclr ns root=3):=hid (fun e=>by
      rw[U.out,if_neg (by rw[ai.out];simp),if_pos];exact List.any_eq_true.2 ⟨k,List.mem_range.2 z,by rw[aD.out,e]⟩)
     clear am ar;cases ik with
     |false=>
      clear z1;go_wp2;go_round
      case rel=>exact⟨k+1,by omega,by go_num,hid (by rw[J.out];rfl)⟩
      case measure=>simp[intOf];omega
     |true=>
      by_cases hc1:cv=1
      ·subst hc1;go_wp2;go_round
       case rel=>exact⟨k+1,by omega,by go_num,hid (by rw[J.out];rfl)⟩
       case measure=>simp[intOf];omega
      ·have aT:¬((cv:Int)=1):=by omega
       have hc1b:((cv:Int)==1)=false:=by rw[beq_eq_false_iff_ne];exact aT
       have aR:Hid (checkN sclr ns root=3):=hid (d.out (by simpa using hc1));go_wp2;go_ret;rw[aR.out];exact⟨rfl,f.out _ I.out⟩
    ·have aM:¬(k:Int)<(ns.length:Int):=by omega
     have F:(List.range ns.length).any (bad2 ns root)=false:=by
      have:=HV.out;rwa[show k=ns.length from by omega]at this
     have af:∀x,x<ns.length->mkd (inKeys ns) x=true->(counts ns root).getD x 0=1:=fun x hx hm=>by
      have:=(List.any_eq_false.1 F) x (List.mem_range.2 hx);unfold bad2 at this;unfold mkd at hm;rw[hm]at this;simpa using this
     have j:=ze3 B b u.out af;have ae:=hid (zpe ns.length A c (root:Int) vs ns B hl l (fun x hx y hy W C=>zst A c (root:Int) vs ns B aV.out hl hks ns.length x y W (j x hx).1 (j y hy).1 (j x hx).2 C) w8 (H.out w8 I.out));have ac:=hid F;obtain⟨p0,p1⟩:=HS.out w8 I.out;obtain⟨tw,ak⟩:=ex (twice ns ns.length)
     rw[ak]at ae;have Z:=hid ak;clear F af j ak;go_wp2_with fail;refine ae.out.mono ?_;rintro e w9 ⟨rfl,aB⟩;have K:Hid (Below a.heap.size a w9):=hid (I.out.trans (aB.mono I.out.size));clear aB;cases tw with
     |true=>
      have d:Hid (checkN sclr ns root=8):=hid (by rw[U.out,if_neg (by rw[ai.out];simp),if_neg (by rw[ac.out];simp),if_pos Z.out]);go_wp2;go_ret;rw[d.out];exact⟨rfl,f.out _ K.out⟩
     |false=>
      have G:Hid (checkN sclr ns root=if(depth ns root).1>32 then 5 else 0):=hid (by rw[U.out,if_neg (by rw[ai.out];simp),if_neg (by rw[ac.out];simp),if_neg (by rw[Z.out];simp)]);have HD:=hid (zhx A c root vs ns B hl l b u.out w9 (H.out w9 K.out));obtain⟨q0,q1⟩:=HS.out w9 K.out;obtain⟨dv,ax⟩:=ex ((depth ns root).1)
      obtain⟨da,aF⟩:=ex ((depth ns root).2)
      rw[ax]at G;rw[ax,aF]at HD;clear ax aF p0 p1;go_wp2_with fail;refine HD.out.mono ?_;rintro e a9 ⟨rfl,ag⟩;have aa:Hid (Below a.heap.size a a9):=hid (K.out.trans (ag.mono K.out.size));clear ag;by_cases hd:dv>32
      ·have d:Hid (checkN sclr ns root=5):=hid (by rw[G.out,if_pos hd]);go_wp2;go_ret;rw[d.out];exact⟨rfl,f.out _ aa.out⟩
      ·have d:Hid (checkN sclr ns root=0):=hid (by rw[G.out,if_neg hd]);go_wp2;go_ret;rw[d.out];exact⟨rfl,f.out _ aa.out⟩
def checkI (sclr:Int->Gr.Str->Bool) (is:List Gr.Ni) (root:Int):Nat:=
 if is.length>4096 then 7 else if is.length=0\/indB is root=false then 3 else checkN sclr (is.map Gr.Ni.nd) root.toNat
theorem ze4 (T:World->Prop) (hT:Stays T) (sclr:Int->Gr.Str->Bool) (A:Option Addr) (c:Nat) (root:Int) (vs:List NV) (is:List Gr.Ni) (hks:NH (is.map Gr.Ni.nd)) (hsc:ScalsOk T sclr (is.map Gr.Ni.nd)) (hl:is.length<=1073741823) (w:World) (hTw:T w) (h:IAt w w.heap.size A vs is):
 Calls prog 14 #[.agg #[.slice A is.length c,.int .i64 root]] w fun e w'=>e=.returned (.int .i64 (checkI sclr is root:Nat))/\Below w.heap.size w w':=by
 by_cases h1:is.length>4096
 ·have g:Hid (checkI sclr is root=7):=hid (by unfold checkI;rw[if_pos h1]);have f:(4096:Int)<(is.length:Int):=by omega
  clear hsc hks hTw h;go_enter func14,ntmps14;go_wp2;go_ret;rw[g.out];exact⟨rfl,(Below.refl _ _).alloc (Nat.le_refl _) _⟩
 ·have f:¬(4096:Int)<(is.length:Int):=by omega
  by_cases h2:is.length=0
  ·have g:Hid (checkI sclr is root=3):=hid (by unfold checkI;rw[if_neg h1,if_pos (.inl h2)]);obtain rfl:=List.eq_nil_of_length_eq_zero h2;clear hsc hks hTw h h1 f h2;go_enter func14,ntmps14;go_wp2;go_ret;rw[g.out];exact⟨rfl,(Below.refl _ _).alloc (Nat.le_refl _) _⟩
  ·have h2b:((is.length:Int)==0)=false:=by rw[beq_eq_false_iff_ne];omega
   cases hin:indB is root with
   |false=>
    have g:Hid (checkI sclr is root=3):=hid (by unfold checkI;rw[if_neg h1,if_pos (.inr hin)]);obtain⟨k,b⟩:=ex (w.alloc (.cells #[.slice A is.length c,.int .i64 root] 24))
    have i:Below w.heap.size w k:=by rw[<-b];exact(Below.refl _ _).alloc (Nat.le_refl _) _
    have j:=ze2 A c root vs is hl (fun n p=>by
     have:=hks n.nd (List.mem_map_of_mem p);simp only[Gr.Ni.nd,List.length_map]at this;exact⟨this.1,this.2.1⟩) k ((h.below i).more i.size)
    rw[hin]at j;have q:=hid j;have o:=hid i;clear hsc hks hTw h hin j i;go_enter func14,ntmps14;go_upto_region 1 with fail;have m:Blk k w.heap.size 24 #[.slice A is.length c,.int .i64 root]:=by rw[<-b];exact Blk.new _ _ _
    obtain⟨g0,g1⟩:=cells2 m;(try rw[b]);clear b m;go_wp2_with fail;refine q.out.mono ?_;rintro e w2 ⟨rfl,d⟩;have l:=hid (o.out.trans (d.mono o.out.size));clear d;go_wp2;go_ret;rw[g.out];exact⟨rfl,l.out⟩
   |true=>
    have a:=hin;unfold indB at a;rw[Bool.and_eq_true]at a;have hr0:0<=root:=by have:=a.1;unfold inR at this;simp at this;exact this.1
    obtain⟨r,rfl⟩:∃r:Nat,root=(r:Int):=⟨root.toNat,by omega⟩
    have:=zl9 T hT sclr A c r vs is (is.map Gr.Ni.nd) rfl (by simp;omega) (by simp;omega) hks hin hsc w hTw h;rw[List.length_map]at this;have e:checkI sclr is (r:Int)=checkN sclr (is.map Gr.Ni.nd) r:=by
     unfold checkI;rw[if_neg h1,if_neg (by rw[hin];simp[h2]),Int.toNat_natCast]
    rw[e];exact this
theorem zv4 {s:Gr.Str} {a:Nat} {z:Gr.Zn} (h:zoneAt s a=some z):(z.z=90/\z.h=0/\z.m=0)\/z.z=43\/z.z=45:=by
 unfold zoneAt at h;split at h
 ·grind
 ·split at h
  ·split at h
   ·rename_i hb;injection h with h
    subst h;right;simp only[Bool.and_eq_true,Bool.or_eq_true]at hb;show s.getD a 0=43\/s.getD a 0=45;rcases hb.1 with h1|h1
    ·unfold isAt at h1;have:=eq_of_beq h1;left;simp[List.getD_eq_getElem?_getD,this]
    ·unfold isAt at h1;have:=eq_of_beq h1;right;simp[List.getD_eq_getElem?_getD,this]
   ·cases h
  ·cases h
theorem mo_z {s:Gr.Str} {x:Gr.Mo} (h:Gr.rd s=some x):(x.z=0\/(x.z=90/\x.zh=0/\x.zm=0)\/x.z=43\/x.z=45)/\(x.time=false->x.nanos=0):=by
 unfold Gr.rd at h;split at h
 ·grind
 ·split at h
  ·grind
  ·split at h
   ·split at h
    ·cases h
    ·split at h
     ·grind
     ·split at h
      ·rename_i z hz;split at h
       ·injection h with h;subst h;exact⟨.inr (zv4 hz),fun e=>by cases e⟩
       ·cases h
      ·cases h
   ·cases h
theorem zxx {x:Gr.Mo} (h:MoOk x):decide (((moSh x:Nat):Int)=2)=!x.date:=by
 unfold moSh;rcases h.sh with⟨a,b⟩|⟨a,b,_⟩|⟨a,b,_⟩<;>rw[a,b]<;>decide
theorem zp2 {x:Gr.Mo} (h:MoOk x):prngB ((moSh x:Nat):Int) x.y x.m x.d x.h x.mi x.c x.zh x.zm=okR x:=by
 unfold prngB okR;rw[zxx h]
theorem psecs {x:Gr.Mo} (hz:(x.z=90/\x.zh=0/\x.zm=0)\/x.z=43\/x.z=45):
 (if((x.z.toNat:Nat):Int)=43 then Cal.num x.y x.m x.d*86400+(x.h:Int)*3600+(x.mi:Int)*60+(x.c:Int)-((x.zh:Int)*3600+(x.zm:Int)*60)else Cal.num x.y x.m x.d*86400+(x.h:Int)*3600+(x.mi:Int)*60+(x.c:Int)+((x.zh:Int)*3600+(x.zm:Int)*60))=secs x:=by
 unfold secs offS;rcases hz with⟨h,h1,h2⟩|h|h
 ·omega
 ·rw[h,if_pos (by decide),if_neg (by decide)];omega
 ·rw[h,if_neg (by decide),if_pos rfl];omega
theorem u8_z {z:UInt8} (h:z≠0):((z.toNat:Nat):Int)≠0:=by
 intro e;apply h;apply UInt8.toNat_inj.1;simpa using e
theorem zib {s:Gr.Str} (hl:s.length<=1073741823) (h:Gr.rd s=none) (w:World):Calls Tryz.prog 92 #[.string ⟨s.toArray⟩] w fun e w'=>Below w.heap.size w w'/\∃(sh y m d h mi c zh zm n z:Nat),e=.returned (.tuple #[.agg #[.int .i64 (sh:Int),.int .i64 (y:Int),.int .i64 (m:Int),.int .i64 (d:Int),.int .i64 (h:Int),.int .i64 (mi:Int),.int .i64 (c:Int),.int .i64 (zh:Int),.int .i64 (zm:Int),.int .i64 (n:Int),.int .u8 (z:Int)],.bool false]):=by
 refine(zk1 s hl w).mono ?_;rintro e w' ⟨g,sh,f,a,z,b,_⟩;refine⟨g,sh,f 0,f 1,f 2,f 3,f 4,f 5,f 6,f 7,a,z,?_⟩;rw[b];unfold rdT;rw[h];rfl
theorem zfa {s:Gr.Str} {x:Gr.Mo} (hl:s.length<=1073741823) (h:Gr.rd s=some x) (w:World):Calls Tryz.prog 92 #[.string ⟨s.toArray⟩] w fun e w'=>e=.returned (.tuple #[.agg #[.int .i64 ((moSh x:Nat):Int),.int .i64 (x.y:Int),.int .i64 (x.m:Int),.int .i64 (x.d:Int),.int .i64 (x.h:Int),.int .i64 (x.mi:Int),.int .i64 (x.c:Int),.int .i64 (x.zh:Int),.int .i64 (x.zm:Int),.int .i64 (x.nanos:Int),.int .u8 ((x.z.toNat:Nat):Int)],.bool true])/\Below w.heap.size w w':=by
 refine(zk1 s hl w).mono ?_;rintro e w' ⟨j,sh,f,nn,z,g,b⟩;refine⟨?_,j⟩;have a:rdT s=some (moC x):=by unfold rdT;rw[h];rfl
 have i:=b _ a;rw[g,a,<-i];rfl
theorem zic (s:Gr.Str) (hl:s.length<=1073741823) (w:World) (hT:UT w):Calls prog 73 #[.string ⟨s.toArray⟩] w (zc3 (insP s) w):=by
 have HT:=hid hT;clear hT;obtain⟨r,D⟩:=ex (insP s)
 have Z:=hid D;rw[D];clear D;have L:Hid (insP s=match Gr.rd s with|none=>([],3)|some x=>if x.z=0 then([],3)else if okR x=false then([],13)else osP (secs x) x.nanos):=hid rfl;cases hrd:Gr.rd s with
 |none=>
  have J:Hid (r=([],3)):=hid (by rw[<-Z.out,L.out,hrd]);have v:=hid (fun W=>zib hl hrd W);clear hrd;go_enter func73,ntmps73;go_wp2_with fail;refine(v.out _).mono ?_;rintro e P ⟨i,M,y,m,d,h,mi,c,zh,zm,n,z,rfl⟩;have B:=hid i;clear i;go_wp2;go_ret2;rw[J.out];exact⟨rfl,B.out.alloc B.out.size _⟩
 |some x=>
  have g:=zpz hrd;have C:=mo_z hrd;have N:=hid (fun W=>zfa hl hrd W);have I:=zp2 g;have H:=hid (fun W=>ze8 ((moSh x:Nat):Int) x.y x.m x.d x.h x.mi x.c x.zh x.zm (x.nanos:Int) ((x.z.toNat:Nat):Int) W);rw[I]at H;obtain⟨M,A⟩:=ex (moSh x)
  obtain⟨E,l⟩:∃E:Int,((x.z.toNat:Nat):Int)=E:=⟨_,rfl⟩
  have t:=fun(hv:Cal.vld x.y x.m x.d=true) (h1:(x.z=90/\x.zh=0/\x.zm=0)\/x.z=43\/x.z=45) W=>zh8 ((moSh x:Nat):Int) (x.y:Int) (x.m:Int) (x.d:Int) (x.h:Int) (x.mi:Int) (x.c:Int) (x.zh:Int) (x.zm:Int) (x.nanos:Int) ((x.z.toNat:Nat):Int) hv (by omega) (by have:=g.h;omega) (by omega) (by have:=g.mi;omega) (by omega) (by have:=g.c;omega) (by omega) (by have:=g.zh;omega) (by omega) (by have:=g.zm;omega) W
  have v:=N;have G:=H;rw[A,l]at v G;clear N H;have HZZ:=hid l;have HSH:=hid A;have HOK:=hid g;have HMZ:=hid C;by_cases hz:x.z=0
  ·have J:Hid (r=([],3)):=hid (by rw[<-Z.out,L.out,hrd];simp only;rw[if_pos hz]);obtain rfl:0=E:=by rw[<-l,hz];rfl
   have hz0b:((0:Int)==0)=true:=rfl;clear hrd g C I A l hz t;go_enter func73,ntmps73;go_wp2_with fail;refine(v.out _).mono ?_;rintro e P ⟨rfl,i⟩;have B:=hid i;clear i;go_wp2;go_ret2;rw[J.out];exact⟨rfl,B.out.alloc B.out.size _⟩
  ·have V:=u8_z hz;rw[l]at V;have hznb:(E==0)=false:=by simpa using V
   have K:=C.1.resolve_left hz;have O:x.date=true/\x.time=true:=by
    rcases g.sh with h|⟨_,_,h⟩|⟨_,_,h⟩
    ·exact h
    ·exact absurd h hz
    ·exact absurd h hz
   cases D:okR x with
   |false=>
    have J:Hid (r=([],13)):=hid (by rw[<-Z.out,L.out,hrd];simp only;rw[if_neg hz,if_pos D]);rw[D]at G;clear hrd g C I A l hz D t O K;go_enter func73,ntmps73;go_wp2_with fail;refine(v.out _).mono ?_;rintro e P ⟨rfl,i⟩;go_upto_region 2 with fail;obtain⟨o,p⟩:=ex P.heap.size
    obtain⟨u,k⟩:∃u,u=P.alloc (.cells #[.int .i64 (M:Int),.int .i64 (x.y:Int),.int .i64 (x.m:Int),.int .i64 (x.d:Int),.int .i64 (x.h:Int),.int .i64 (x.mi:Int),.int .i64 (x.c:Int),.int .i64 (x.zh:Int),.int .i64 (x.zm:Int),.int .i64 (x.nanos:Int),.int .u8 E] 135):=⟨_,rfl⟩
    have f:Hid (Blk u o 135 #[.int .i64 (M:Int),.int .i64 (x.y:Int),.int .i64 (x.m:Int),.int .i64 (x.d:Int),.int .i64 (x.h:Int),.int .i64 (x.mi:Int),.int .i64 (x.c:Int),.int .i64 (x.zh:Int),.int .i64 (x.zm:Int),.int .i64 (x.nanos:Int),.int .u8 E]/\Below w.heap.size w u/\UT u):=hid (by
     have U:Below w.heap.size w u:=by rw[k];exact i.alloc i.size _
     exact⟨by rw[k,<-p];exact Blk.new _ _ _,U,UT.stays _ _ HT.out U⟩)
    (try rw[<-k]);(try rw[p]);clear k p i;obtain⟨q0,q1,q2,q3,q4,q5,q6,q7,q8,q9,T⟩:=zaf f.out.1;go_wp2_with fail;refine(G.out _).mono ?_;rintro e b ⟨rfl,j⟩;have a:Hid (Blk b o 135 #[.int .i64 (M:Int),.int .i64 (x.y:Int),.int .i64 (x.m:Int),.int .i64 (x.d:Int),.int .i64 (x.h:Int),.int .i64 (x.mi:Int),.int .i64 (x.c:Int),.int .i64 (x.zh:Int),.int .i64 (x.zm:Int),.int .i64 (x.nanos:Int),.int .u8 E]/\Below w.heap.size w b/\UT b):=hid ⟨f.out.1.below j f.out.1.lt,f.out.2.1.trans (j.mono f.out.2.1.size),UT.stays _ _ f.out.2.2 j⟩;clear j q0 q1 q2 q3 q4 q5 q6 q7 q8 q9 T;go_wp2;go_ret2;rw[J.out];exact⟨rfl,a.out.2.1⟩
   |true=>
    have J:Hid (r=osP (secs x) x.nanos):=hid (by rw[<-Z.out,L.out,hrd];simp only;rw[if_neg hz,if_neg (by rw[D];decide)]);rw[D]at G;obtain⟨hv,X,Y,_,_⟩:=zp1 g D O.1;have Q:=hid (t hv K);rw[psecs K,A,l]at Q;obtain⟨q,hq⟩:=ex (secs x)
    rw[hq]at Q J X Y;have F:=hid (fun W hW=>zg2 q x.nanos (x.nanos:Int) rfl g.nanos (by omega) (by omega) W hW);unfold zc3 at F ⊢;obtain⟨⟨R1,R2⟩,hR⟩:∃R,osP q x.nanos=R:=⟨_,rfl⟩
    rw[hR]at F J;simp only at F;obtain⟨Ri,S⟩:∃Ri:Int,(R2:Int)=Ri:=⟨_,rfl⟩
    rw[S]at F;have ab:=hid S;clear hrd g C I A l hz D t O K hv X Y hq hR S;go_enter func73,ntmps73;go_wp2_with fail;refine(v.out _).mono ?_;rintro e P ⟨rfl,i⟩;go_upto_region 2 with fail;obtain⟨o,p⟩:=ex P.heap.size
    obtain⟨u,k⟩:∃u,u=P.alloc (.cells #[.int .i64 (M:Int),.int .i64 (x.y:Int),.int .i64 (x.m:Int),.int .i64 (x.d:Int),.int .i64 (x.h:Int),.int .i64 (x.mi:Int),.int .i64 (x.c:Int),.int .i64 (x.zh:Int),.int .i64 (x.zm:Int),.int .i64 (x.nanos:Int),.int .u8 E] 135):=⟨_,rfl⟩
    have f:Hid (Blk u o 135 #[.int .i64 (M:Int),.int .i64 (x.y:Int),.int .i64 (x.m:Int),.int .i64 (x.d:Int),.int .i64 (x.h:Int),.int .i64 (x.mi:Int),.int .i64 (x.c:Int),.int .i64 (x.zh:Int),.int .i64 (x.zm:Int),.int .i64 (x.nanos:Int),.int .u8 E]/\Below w.heap.size w u/\UT u):=hid (by
     have U:Below w.heap.size w u:=by rw[k];exact i.alloc i.size _
     exact⟨by rw[k,<-p];exact Blk.new _ _ _,U,UT.stays _ _ HT.out U⟩)
    (try rw[<-k]);(try rw[p]);clear k p i;obtain⟨q0,q1,q2,q3,q4,q5,q6,q7,q8,q9,T⟩:=zaf f.out.1;go_wp2_with fail;refine(G.out _).mono ?_;rintro e b ⟨rfl,j⟩;have a:Hid (Blk b o 135 #[.int .i64 (M:Int),.int .i64 (x.y:Int),.int .i64 (x.m:Int),.int .i64 (x.d:Int),.int .i64 (x.h:Int),.int .i64 (x.mi:Int),.int .i64 (x.c:Int),.int .i64 (x.zh:Int),.int .i64 (x.zm:Int),.int .i64 (x.nanos:Int),.int .u8 E]/\Below w.heap.size w b/\UT b):=hid ⟨f.out.1.below j f.out.1.lt,f.out.2.1.trans (j.mono f.out.2.1.size),UT.stays _ _ f.out.2.2 j⟩;clear j q0 q1 q2 q3 q4 q5 q6 q7 q8 q9 T;go_upto_region 6 with fail;have p0:∀W:WB b.heap.size b,W.w.cell? ⟨o,0,none⟩=some (.int .i64 (M:Int)):=fun W=>(a.out.1.below W.h a.out.1.lt).cell 0
    have p1:∀W:WB b.heap.size b,W.w.cell? ⟨o,1,none⟩=some (.int .i64 (x.y:Int)):=fun W=>(a.out.1.below W.h a.out.1.lt).cell 1
    have p2:∀W:WB b.heap.size b,W.w.cell? ⟨o,2,none⟩=some (.int .i64 (x.m:Int)):=fun W=>(a.out.1.below W.h a.out.1.lt).cell 2
    have p3:∀W:WB b.heap.size b,W.w.cell? ⟨o,3,none⟩=some (.int .i64 (x.d:Int)):=fun W=>(a.out.1.below W.h a.out.1.lt).cell 3
    have p4:∀W:WB b.heap.size b,W.w.cell? ⟨o,4,none⟩=some (.int .i64 (x.h:Int)):=fun W=>(a.out.1.below W.h a.out.1.lt).cell 4
    have p5:∀W:WB b.heap.size b,W.w.cell? ⟨o,5,none⟩=some (.int .i64 (x.mi:Int)):=fun W=>(a.out.1.below W.h a.out.1.lt).cell 5
    have p6:∀W:WB b.heap.size b,W.w.cell? ⟨o,6,none⟩=some (.int .i64 (x.c:Int)):=fun W=>(a.out.1.below W.h a.out.1.lt).cell 6
    have p7:∀W:WB b.heap.size b,W.w.cell? ⟨o,7,none⟩=some (.int .i64 (x.zh:Int)):=fun W=>(a.out.1.below W.h a.out.1.lt).cell 7
    have p8:∀W:WB b.heap.size b,W.w.cell? ⟨o,8,none⟩=some (.int .i64 (x.zm:Int)):=fun W=>(a.out.1.below W.h a.out.1.lt).cell 8
    have p9:∀W:WB b.heap.size b,W.w.cell? ⟨o,9,none⟩=some (.int .i64 (x.nanos:Int)):=fun W=>(a.out.1.below W.h a.out.1.lt).cell 9
    have ac:∀W:WB b.heap.size b,W.w.cell? ⟨o,10,none⟩=some (.int .u8 E):=fun W=>(a.out.1.below W.h a.out.1.lt).cell 10
    have aa:Hid (∀W:WB b.heap.size b,UT W.w):=hid (fun W=>UT.stays _ _ a.out.2.2 W.h);refine zaa b.heap.size b (by kernel_rfl) (by kernel_rfl) (Below.refl _ _) ?_
    iterate 9 (try go_big_quiet_step ((first| (with_reducible refine Calls.grow ((Q.out _).mono (fun _ _ ⟨e1,e2⟩=>⟨e1,(WB.h _).trans (e2.mono (WB.h _).size)⟩)))| (with_reducible refine Calls.grow ((F.out _ (aa.out _)).mono (fun _ _ ⟨e1,e2⟩=>⟨e1,(WB.h _).trans (e2.mono (WB.h _).size)⟩))))))
    refine wpQuiet_nil ?_;rintro _ ⟨wz,rfl⟩;clear p0 p1 p2 p3 p4 p5 p6 p7 p8 p9 ac;go_wp2;go_ret2;rw[J.out];refine⟨?_,a.out.2.1.trans (wz.h.mono a.out.2.1.size)⟩;show _=Ending.returned (.tuple #[.string ⟨R1.toArray⟩,.int .i64 (R2:Int)]);rw[ab.out];rfl
end Go.Proofs.YtoigpackhninoaaGreatDoor

import Derived.Test.YtpjmhafmeieloabGreatDoorGrSame
import Derived.Test.YtpjmhafmeieloabGreatDoorGrInsP3F
import Derived.Test.YtpjmhafmeieloabGreatDoorZ23
namespace Go.Proofs.YtpjmhafmeieloabGreatDoor
namespace Gr
theorem zpk (L:List Nat):∀(l:List Nat) (x:Nat),x<l.length->(L.foldl cstep l).getD x 0=l.getD x 0+L.count x:=by
 induction L with
 |nil=>intro l x _;simp
 |cons y L ih=>
  intro l x a;rw[List.foldl_cons,ih (cstep l y) x (by unfold cstep;simpa using a)];unfold cstep;by_cases h:y=x
  .grind
  .grind
theorem zcv {ns:List Nd} {root x:Nat} (hx:x<ns.length):(counts ns root).getD x 0=(if x=root then 1 else 0)+(refs ns).count x:=by
 unfold counts;rw[zpk _ _ _ (by unfold cstep;simpa using hx)]
 congr 1
 unfold cstep;have e:∀y,(List.replicate ns.length 0).getD y 0=0:=fun y=>by simp[List.getD_eq_getElem?_getD,List.getElem?_replicate];split<;>rfl
 by_cases h:x=root
 .grind
 .grind
theorem zjw (a b:List Nd):refs (a++b)=refs a++refs b:=by unfold refs;rw[List.flatMap_append]
theorem zs1 {ns:List Nd} {a b:Nat} (ha:a<ns.length) (hb:b∈succ ns a):b∈refs ns:=by
 unfold succ at hb;rw[List.getElem?_eq_getElem ha]at hb;exact List.mem_flatMap.2 ⟨_,List.getElem_mem ha,hb⟩
theorem zky {ns:List Nd} {a p b:Nat} (hap:p<a) (ha:a<ns.length) (h1:b∈succ ns a) (h2:b∈succ ns p):2<=(refs ns).count b:=by
 have e:refs ns=refs (ns.take a)++refs (ns.drop a):=by rw[<-zjw,List.take_append_drop]
 rw[e,List.count_append];have d:b∈refs (ns.take a):=by
  unfold succ at h2;rw[List.getElem?_eq_getElem (by omega)]at h2;refine List.mem_flatMap.2 ⟨ns[p],?_,h2⟩;rw[List.mem_take_iff_getElem];exact⟨p,by omega,rfl⟩
 have c:b∈refs (ns.drop a):=by
  unfold succ at h1;rw[List.getElem?_eq_getElem ha]at h1;refine List.mem_flatMap.2 ⟨ns[a],?_,h1⟩;rw[List.mem_drop_iff_getElem];exact⟨0,by omega,by simp⟩
 have:=List.count_pos_iff.2 d;have:=List.count_pos_iff.2 c;omega
section
variable {ns:List Nd} {root:Nat}
theorem Reach.last {sc:Nat->List Nat} {a b:Nat} (h:Reach sc a b):a=b\/∃p,Reach sc a p/\b∈sc p:=by
 induction h with
 |refl=>exact .inl rfl
 |step h1 h2 ih=>
  rcases ih with rfl|⟨p,h3,h4⟩
  .exact .inr ⟨_,.refl _,h1⟩
  .exact .inr ⟨p,.step h1 h3,h4⟩
theorem zg5 (hr:Refs ns) (hroot:root<ns.length) (hall:∀v,v<ns.length->Reach (succ ns) root v) (hone:∀x,x<ns.length->mkd (inKeys ns) x=true->(counts ns root).getD x 0=1) {i x:Nat} (hi:i<ns.length) (hk:mkd (inKeys ns) i=true) (hx:x∈succ ns i):¬Reach (succ ns) x i:=by
 intro A;have o:∀a,a<ns.length->∀b,Reach (succ ns) a b->b<ns.length:=fun a w b h=>h.closed (p:=fun a=>a<ns.length) (fun a _ b g=>hr.succ a b g) w
 have q:∀j,Reach (succ ns) i j->mkd (inKeys ns) j=true:=fun j B=>by
  obtain⟨k,c,f⟩:=(zau hr i).1 hk;exact(zau hr j).2 ⟨k,c,f.trans B⟩
 have d:∀j,Reach (succ ns) i j->Reach (succ ns) j i->∃p,Reach (succ ns) i p/\Reach (succ ns) p i/\j∈succ ns p:=by
  intro j c f;have l:Reach (succ ns) x j:=A.trans c;rcases l.last with h4|⟨p,h4,h5⟩
  .subst h4;exact⟨i,.refl _,.refl _,hx⟩
  .exact⟨p,.step hx h4,.step h5 f,h5⟩
 have n:¬(Reach (succ ns) i i/\Reach (succ ns) i i):=by
  have y:∀v,Reach (succ ns) root v->¬(Reach (succ ns) i v/\Reach (succ ns) v i):=by
   intro v z;refine z.closed (p:=fun v=>¬(Reach (succ ns) i v/\Reach (succ ns) v i)) ?_ ?_
   .rintro a w b g ⟨c,f⟩;obtain⟨p,l,h4,h5⟩:=d b c f;have m:=hr.succ a b g;have t:a≠p:=fun e=>w (e▸⟨l,h4⟩)
    have r:=o i hi p l;have u:a<ns.length:=by
     unfold succ at g;rcases Nat.lt_or_ge a ns.length with h|h
     .exact h
     .grind
    have s:=hone b m (q b c);rw[zcv m]at s;have:2<=(refs ns).count b:=by
     rcases Nat.lt_or_gt_of_ne t with h|h
     .exact zky h r h5 g
     .exact zky h u g h5
    omega
   .rintro⟨c,f⟩;obtain⟨p,l,h4,h5⟩:=d root c f;have s:=hone root hroot (q root c);rw[zcv hroot,if_pos rfl]at s;have:=List.count_pos_iff.2 (zs1 (o i hi p l) h5);omega
  exact y i (hall i hi)
 exact n ⟨.refl _,.refl _⟩
open Classical in
theorem zv3 (hr:Refs ns) (hroot:root<ns.length) (hall:∀v,v<ns.length->Reach (succ ns) root v) (hone:∀x,x<ns.length->mkd (inKeys ns) x=true->(counts ns root).getD x 0=1):∀(f i:Nat),i<ns.length->mkd (inKeys ns) i=true->(List.range ns.length).countP (fun j=>decide (Reach (succ ns) i j))<=f->Tall ns f i:=by
 intro f
 induction f with
 |zero=>
  intro i a _ h;have:0<(List.range ns.length).countP (fun j=>decide (Reach (succ ns) i j)):=List.countP_pos_iff.2 ⟨i,List.mem_range.2 a,by simpa using Reach.refl i⟩;omega
 |succ f ih=>
  intro i a e h x b;have d:=hr.succ i x b;have c:mkd (inKeys ns) x=true:=by
   obtain⟨k,l,g⟩:=(zau hr i).1 e;exact(zau hr x).2 ⟨k,l,g.trans (.one b)⟩
  refine ih x d c ?_;have:=zdd (fun j=>decide (Reach (succ ns) x j)) (fun j=>decide (Reach (succ ns) i j)) (List.range ns.length) (fun j _ m=>by simpa using Reach.step b (by simpa using m)) i (List.mem_range.2 a) (by simpa using zg5 hr hroot hall hone a e b) (by simpa using Reach.refl i);omega
theorem ze5 (hr:Refs ns) (hroot:root<ns.length) (hall:∀v,v<ns.length->Reach (succ ns) root v) (hone:∀x,x<ns.length->mkd (inKeys ns) x=true->(counts ns root).getD x 0=1):∀k∈allKeys ns,k<ns.length/\Tall ns ns.length k:=by
 intro k c;have a:k<ns.length:=by
  obtain⟨y,d,b⟩:=List.mem_flatMap.1 c;exact hr y d k (List.mem_append_left _ b)
 exact⟨a,zv3 hr hroot hall hone _ k a ((zau hr k).2 ⟨k,c,.refl _⟩) (Nat.le_trans List.countP_le_length (by simp))⟩
end
end Gr
open Gr
open _root_.Go.Proofs.Tryz
open _root_.Go.Lib (hid)
set_option maxRecDepth 100000
set_option maxHeartbeats 16000000
open Go.RowKit
def NH (ns:List Gr.Nd):Prop:=∀n∈ns,n.keys.length<=1073741823/\n.items.length<=1073741823/\n.text.length<=1073741823
theorem zmc (ns:List Gr.Nd) (h:NH ns):(Gr.refs ns).length<=ns.length*2147483646:=by
 induction ns with
 |nil=>simp[Gr.refs]
 |cons x l ih=>
  have h1:=ih (fun n a=>h n (.tail _ a));obtain⟨h2,h3,_⟩:=h x (.head _);have e:Gr.refs (x::l)=(x.keys++x.items)++Gr.refs l:=rfl;rw[e,List.length_append,List.length_append,List.length_cons,Nat.add_mul];omega
theorem zpl {ns:List Gr.Nd} {i:Nat} (h:i<ns.length):ns.getD i ⟨0,[],false,[],[]⟩=ns[i]:=by
 rw[List.getD_eq_getElem?_getD,List.getElem?_eq_getElem h];rfl
theorem zft (k:Nat) (f:Nat->Bool):(List.range (k+1)).all f=((List.range k).all f && f k):=by
 rw[List.range_succ,List.all_append];simp
theorem zfu (k:Nat) (f:Nat->Bool):(List.range (k+1)).any f=((List.range k).any f || f k):=by
 rw[List.range_succ,List.any_append];simp
def ScalsOk (T:World->Prop) (sclr:Int->Gr.Str->Bool) (ns:List Gr.Nd):Prop:=∀x∈ns,x.kind≠9->x.kind≠10->x.kind≠11->x.ord=false->x.keys=[]->x.items=[]->ScalOk T x.kind x.text (sclr x.kind x.text)
section
variable (sclr:Int->Gr.Str->Bool) (ns:List Gr.Nd) (root:Nat)
def ok1 (i:Nat):Bool:=(marks ns root).getD i false && formB sclr (ns.getD i ⟨0,[],false,[],[]⟩)
def bad2 (i:Nat):Bool:=(inKeys ns).getD i false && (counts ns root).getD i 0 != 1
theorem zpm:checkN sclr ns root=if(List.range ns.length).all (ok1 sclr ns root)=false then 3 else if(List.range ns.length).any (bad2 ns root)=true then 3 else if twice ns ns.length=true then 8 else if(depth ns root).1>32 then 5 else 0:=by
 unfold checkN;have b:(List.range ns.length).all (ok1 sclr ns root)=(List.range ns.length).all (fun i=>(marks ns root).getD i false && formB sclr (ns.getD i ⟨0,[],false,[],[]⟩)):=rfl;have a:(List.range ns.length).any (bad2 ns root)=(List.range ns.length).any (fun i=>(inKeys ns).getD i false && (counts ns root).getD i 0 != 1):=rfl;rw[b,a];cases(List.range ns.length).all (fun i=>(marks ns root).getD i false && formB sclr (ns.getD i ⟨0,[],false,[],[]⟩))<;>simp
end
theorem zyx {sclr:Int->Gr.Str->Bool} {ns:List Gr.Nd} {root:Nat} (h:(List.range ns.length).all (ok1 sclr ns root)=true):Gr.KF ns/\(∀i,i<ns.length->mkd (marks ns root) i=true):=by
 rw[List.all_eq_true]at h;refine⟨fun n d e=>?_,fun i c=>?_⟩
 .obtain⟨i,c,rfl⟩:=List.getElem_of_mem d;have a:=h i (List.mem_range.2 c);unfold ok1 at a;rw[zpl c,Bool.and_eq_true]at a;have b:=a.2;unfold formB at b;rw[e]at b;simp at b;exact b.2
 .have a:=h i (List.mem_range.2 c);unfold ok1 at a;rw[Bool.and_eq_true]at a;exact a.1
theorem zmd (T:World->Prop) (hT:Stays T) (sclr:Int->Gr.Str->Bool) (A:Option Addr) (c root:Nat) (vs:List NV) (is:List Gr.Ni) (ns:List Gr.Nd) (hns:is.map Gr.Ni.nd=ns) (hn0:0<ns.length) (hn:ns.length<=4096) (hks:NH ns) (hin:indB is (root:Int)=true)
 (hsc:ScalsOk T sclr ns) (w:World) (hTw:T w) (h:IAt w w.heap.size A vs is):
 Calls prog 13 #[.agg #[.slice A ns.length c,.int .i64 root]] w fun e w'=>e=.returned (.int .i64 (checkN sclr ns root:Nat))/\Below w.heap.size w w':=by
 have ab:is.length=ns.length:=by rw[<-hns];simp
 have az:=hin;unfold indB at hin;rw[Bool.and_eq_true]at hin;have b:root<ns.length:=by
  have:=hin.1;unfold inR at this;simp at this;omega
 obtain⟨h0,C⟩:=zbl hin.2;rw[hns]at C;have hG:GAt w w.heap.size A vs ns:=by rw[<-hns];exact h.toG h0
 have l:∀n∈ns,n.keys.length<=1073741823/\n.items.length<=1073741823:=fun n hn=>⟨(hks n hn).1,(hks n hn).2.1⟩
 have hl:ns.length<=1073741823:=by omega
 have aI:Hid (∀W,Below w.heap.size w W->Calls prog 24 #[.agg #[.slice A ns.length c,.int .i64 (root:Int)]] W fun e w'=>e=.returned (.bool true)/\Below W.heap.size W w'):=hid (fun W B=>by
  have:=ze4 A c (root:Int) vs is (by omega) (fun n G=>by
   have:=hks n.nd (by rw[<-hns];exact List.mem_map_of_mem G);simp only[Gr.Ni.nd,List.length_map]at this;exact⟨this.1,this.2.1⟩) W ((h.below B).more B.size)
  rw[ab,az]at this;exact this)
 have HG:=hid hG;have hmk:=fun W=>zb2 ns.length (by omega) W
 have a7:=hid hTw;have hnI:(ns.length:Int)<=4096:=by omega
 have hn0I:(0:Int)<(ns.length:Int):=by omega
 have hn0b:((ns.length:Int)==0)=false:=by rw[beq_eq_false_iff_ne];omega
 have bc:=hid hsc;have P:=hid (zpm sclr ns root);clear hns hin az h0 hG hTw h hsc ab;go_enter func13,ntmps13;go_upto_region 1 with fail;obtain⟨a,V⟩:=ex (w.alloc (.cells #[.slice A ns.length c,.int .i64 root] 27))
 (try rw[V]);have Q:Below w.heap.size w a:=by rw[<-V];exact(Below.refl _ _).alloc (Nat.le_refl _) _
 have b1:Blk a w.heap.size 27 #[.slice A ns.length c,.int .i64 root]:=by rw[<-V];exact Blk.new _ _ _
 obtain⟨gb,M⟩:=ex w.heap.size
 have HGB:=hid M;have L1:=hid Q;(try rw[M]);rw[M]at b1;have HB1:=hid b1;have Z:Hid (∀W,Below a.heap.size a W->W.cell? ⟨gb,0,none⟩=some (.slice A ns.length c)/\W.cell? ⟨gb,1,none⟩=some (.int .i64 (root:Int))):=hid (fun W B=>⟨(b1.below B b1.lt).cell 0,(b1.below B b1.lt).cell 1⟩);have HGL:Hid (gb<a.heap.size):=hid b1.lt;have I:Hid (∀W,Below a.heap.size a W->GAt W W.heap.size A vs ns):=hid (fun W B=>(HG.out.below (Q.trans (B.mono Q.size))).more (Q.trans (B.mono Q.size)).size);have j:Hid (∀W,Below a.heap.size a W->Below w.heap.size w W):=hid (fun W B=>Q.trans (B.mono Q.size));have aQ:=aI.out a Q;have bd:=hid aQ;obtain⟨g0,g1⟩:=Z.out a (Below.refl _ _);clear V M Q b1 aQ;go_wp2_with fail;refine bd.out.mono ?_;rintro e w2 ⟨rfl,ax⟩;obtain⟨p0,p1⟩:=Z.out w2 ax;have ak:=hid ax;clear g0 g1 ax;go_upto_region 6 with fail;obtain⟨w3,R⟩:=ex (w2.alloc (.cells (bcells (List.replicate ns.length false)) 4))
 obtain⟨U,N⟩:=ex w2.heap.size
 have l3:Below a.heap.size a w3:=by rw[<-R];exact ak.out.alloc ak.out.size _
 have b3:Blk w3 U 4 (bcells (List.replicate ns.length false)):=by rw[<-R,<-N];exact Blk.new _ _ _
 have Y:a.heap.size<=U:=by rw[<-N];exact ak.out.size
 have HR:=hid (zet U A c (root:Int) vs ns w.heap.size C hl l (List.replicate ns.length false) root w3 (HG.out.below (j.out w3 l3)) (by have:=L1.out.size;omega) b3 (by simp) b (zds _));have HB3:=hid b3;have L3:=hid l3;have a0:=hid Y;rw[R];(try rw[N]);obtain⟨q0,q1⟩:=Z.out w3 l3;clear R N l3 b3 p0 p1 Y;go_wp2_with fail;refine HR.out.mono ?_;rintro e O ⟨rfl,aD,aO⟩;have au:Below a.heap.size a O:=L3.out.trans (KB.below (g:=U) aD a0.out L3.out.size);have aL:Hid (Blk O U 4 (bcells (marks ns root))):=hid aO;have bb:Hid ((marks ns root).length=ns.length):=hid (zbp C.succ ns.length (List.replicate ns.length false) root (by simp) b (zds _)).len;have L4:=hid au;obtain⟨p0,p1⟩:=Z.out O au;clear aD aO au q0 q1;go_upto_region 8 with fail;clear p0 p1;go_loopw [36] (fun s36 wr=>∃i:Nat,i<=ns.length/\s36=.int .i64 i/\Hid (Below a.heap.size a wr/\Below O.heap.size O wr/\(List.range i).all (ok1 sclr ns root)=true)) (fun s36 _=>ns.length-(intOf s36).toNat)
 case atStart=>exact⟨0,by omega,rfl,hid ⟨L4.out,Below.refl _ _,by simp⟩⟩
 case round=>
  obtain⟨i,hi,rfl,u⟩:=hrel;obtain⟨m,aW⟩:∃m,m=wr:=⟨_,rfl⟩
  subst aW;by_cases hlt:i<ns.length
  .have aM:(i:Int)<(ns.length:Int):=by omega
   obtain⟨ad,ks,is,rfl,S⟩:=(I.out m u.out.1).node hlt;obtain⟨ka,kn,kc⟩:=ks;obtain⟨ia,a9,ic⟩:=is;have G:ns[i]∈ns:=List.getElem_mem hlt;obtain⟨z,aK,aT⟩:=hks _ G;have ai:=hid (bc.out _ G);have al:Hid (ok1 sclr ns root i=((marks ns root).getD i false && formB sclr ns[i])):=hid (by unfold ok1;rw[zpl hlt]);obtain⟨n,hn⟩:=ex (ns[i])
   rw[hn]at S z aK aT ai al;obtain rfl:kn=n.keys.length:=S.kn;obtain rfl:a9=n.items.length:=S.inn;have x0:=S.c0;have x1:=S.c1;have x2:=S.c2;have x3:=S.c3;have x4:=S.c4;obtain⟨mk,r⟩:=ex ((marks ns root).getD i false)
   have av:Blk m U 4 (bcells (marks ns root)):=aL.out.below u.out.2.1 aL.out.lt;have m0:m.cell? ⟨U,i,none⟩=some (.bool mk):=by rw[av.cell,zah (by rw[bb.out];exact hlt),r]
   have K:Hid ((List.range (i+1)).all (ok1 sclr ns root)=(mk && formB sclr n)):=hid (by rw[zft,u.out.2.2,al.out,r];rfl);have d:Hid ((mk && formB sclr n)=false->checkN sclr ns root=3):=hid (fun e=>by
    rw[P.out,if_pos];rw[List.all_eq_false];exact⟨i,List.mem_range.2 hlt,by rw[al.out,r,e];simp⟩)
   have F:Below m.heap.size m (m.alloc (.cells #[.int .i64 n.kind,.string ⟨n.text.toArray⟩,.bool n.ord,.slice ka n.keys.length kc,.slice ia n.items.length ic] 40)):=(Below.refl _ _).alloc (Nat.le_refl _) _;have HF:=hid (zst T hT sclr n.kind n.text n.ord n.keys n.items ka ia kc ic aT z aK (fun a1 a2 a3 a4 a5 a6=>ai.out a1 a2 a3 a4 a5 a6) _ (hT _ _ a7.out ((j.out m u.out.1).trans (F.mono (j.out m u.out.1).size))));have m1:(m.alloc (.cells #[.int .i64 n.kind,.string ⟨n.text.toArray⟩,.bool n.ord,.slice ka n.keys.length kc,.slice ia n.items.length ic] 40)).cell? ⟨U,i,none⟩=some (.bool mk):=(F.cell (p:=⟨U,i,none⟩) av.lt).trans m0;obtain⟨fb,ar⟩:=ex (formB sclr n)
   rw[ar]at K d;have aU:formB sclr ⟨n.kind,n.text,n.ord,n.keys,n.items⟩=fb:=ar;rw[aU]at HF;have L:Hid (Below a.heap.size a (m.alloc (.cells #[.int .i64 n.kind,.string ⟨n.text.toArray⟩,.bool n.ord,.slice ka n.keys.length kc,.slice ia n.items.length ic] 40))/\Below O.heap.size O (m.alloc (.cells #[.int .i64 n.kind,.string ⟨n.text.toArray⟩,.bool n.ord,.slice ka n.keys.length kc,.slice ia n.items.length ic] 40))):=hid ⟨u.out.1.trans (F.mono u.out.1.size),u.out.2.1.trans (F.mono u.out.2.1.size)⟩;clear S G hn av r ar aU F;cases mk with
   |false=>
    go_wp2;go_ret;rw[d.out rfl];exact⟨rfl,j.out _ L.out.1⟩
   |true=>
    clear m0;go_wp2_with fail;refine HF.out.mono ?_;rintro e w6 ⟨rfl,aw⟩;have aj:Hid (Below a.heap.size a w6/\Below O.heap.size O w6):=hid ⟨L.out.1.trans (aw.mono L.out.1.size),L.out.2.trans (aw.mono L.out.2.size)⟩;clear aw;cases fb with
    |false=>
     go_wp2;go_ret;rw[d.out rfl];exact⟨rfl,j.out _ aj.out.1⟩
    |true=>
     go_wp2;go_roundw
     case rel=>exact⟨i+1,by omega,by go_num,hid ⟨aj.out.1,aj.out.2,by rw[K.out];rfl⟩⟩
     case measure=>simp[intOf];omega
  .have aM:¬(i:Int)<(ns.length:Int):=by omega
   have o:(List.range ns.length).all (ok1 sclr ns root)=true:=by
    have:=u.out.2.2;rwa[show i=ns.length from by omega]at this
   obtain⟨aJ,q⟩:=zyx o;have t:∀v,v<ns.length->Gr.Reach (Gr.succ ns) root v:=fun v hv=>(zbb C b v).1 (q v hv)
   have aX:=hid aJ;have s:=hid t;have ao:=hid o;have HC:=hid (zfz A c root vs ns C hl l (by have:=zmc ns hks;omega) m (I.out m u.out.1) b);obtain⟨p0,p1⟩:=Z.out m u.out.1;clear aJ q t o;go_upto_region 13 with fail;go_wp2_with fail;refine HC.out.mono ?_;rintro e w7 ⟨cb,rfl,aZ,aH,aA⟩;have X:Hid (Below a.heap.size a w7):=hid (u.out.1.trans (aH.mono u.out.1.size));have aE:=hid aA;have HK:=hid (zlr A c (root:Int) vs ns C hl l w7 (I.out w7 X.out));obtain⟨q0,q1⟩:=Z.out w7 X.out;clear aZ aH aA p0 p1;go_wp2_with fail;refine HK.out.mono ?_;rintro e w8 ⟨kb,rfl,a8,aq,aS⟩;have H:Hid (Below a.heap.size a w8):=hid (X.out.trans (aq.mono X.out.size));have aR:=hid (aE.out.below aq aE.out.lt);have aY:=hid aS;have aF:Hid ((inKeys ns).length=ns.length/\(counts ns root).length=ns.length):=hid ⟨zeu C _ _ (zjd C) (by simp),by unfold counts;rw[zbr,zb3];simp⟩;clear a8 aq aS q0 q1;go_upto_region 15 with fail;go_loop [57] (fun s57=>∃k:Nat,k<=ns.length/\s57=.int .i64 k/\Hid ((List.range k).any (bad2 ns root)=false)) (fun s57=>ns.length-(intOf s57).toNat)
   case atStart=>exact⟨0,by omega,rfl,hid (by simp)⟩
   case round=>
    obtain⟨k,hk,rfl,HV⟩:=hrel;by_cases z:k<ns.length
    .have aV:(k:Int)<(ns.length:Int):=by omega
     obtain⟨ik,ap⟩:=ex ((inKeys ns).getD k false)
     obtain⟨cv,an⟩:=ex ((counts ns root).getD k 0)
     have z0:w8.cell? ⟨kb,k,none⟩=some (.bool ik):=by rw[aY.out.cell,zah (by rw[aF.out.1];exact z),ap]
     have z1:w8.cell? ⟨cb,k,none⟩=some (.int .i64 (cv:Int)):=by rw[aR.out.cell,zad (by rw[aF.out.2];exact z),an]
     have aP:Hid (bad2 ns root k=(ik && cv != 1)):=hid (by unfold bad2;rw[ap,an]);have K:Hid ((List.range (k+1)).any (bad2 ns root)=(ik && cv != 1)):=hid (by rw[zfu,HV.out,aP.out];rfl);have d:Hid ((ik && cv != 1)=true->checkN sclr ns root=3):=hid (fun e=>by
      rw[P.out,if_neg (by rw[ao.out];simp),if_pos];exact List.any_eq_true.2 ⟨k,List.mem_range.2 z,by rw[aP.out,e]⟩)
     clear ap an;cases ik with
     |false=>
      clear z1;go_wp2;go_round
      case rel=>exact⟨k+1,by omega,by go_num,hid (by rw[K.out];rfl)⟩
      case measure=>simp[intOf];omega
     |true=>
      by_cases hc1:cv=1
      .subst hc1;go_wp2;go_round
       case rel=>exact⟨k+1,by omega,by go_num,hid (by rw[K.out];rfl)⟩
       case measure=>simp[intOf];omega
      .have aG:¬((cv:Int)=1):=by omega
       have hc1b:((cv:Int)==1)=false:=by rw[beq_eq_false_iff_ne];exact aG
       have aC:Hid (checkN sclr ns root=3):=hid (d.out (by simpa using hc1));go_wp2;go_ret;rw[aC.out];exact⟨rfl,j.out _ H.out⟩
    .have aV:¬(k:Int)<(ns.length:Int):=by omega
     have D:(List.range ns.length).any (bad2 ns root)=false:=by
      have:=HV.out;rwa[show k=ns.length from by omega]at this
     have ae:∀x,x<ns.length->mkd (inKeys ns) x=true->(counts ns root).getD x 0=1:=fun x hx hm=>by
      have:=(List.any_eq_false.1 D) x (List.mem_range.2 hx);unfold bad2 at this;unfold mkd at hm;rw[hm]at this;simpa using this
     have f:=ze5 C b s.out ae;have ah:=hid (zpj ns.length A c (root:Int) vs ns C hl l (fun x hx y hy W B=>zs0 A c (root:Int) vs ns C aX.out hl hks ns.length x y W (f x hx).1 (f y hy).1 (f x hx).2 B) w8 (I.out w8 H.out));have ag:=hid D;obtain⟨p0,p1⟩:=Z.out w8 H.out;obtain⟨tw,ay⟩:=ex (twice ns ns.length)
     rw[ay]at ah;have af:=hid ay;clear D ae f ay;go_wp2_with fail;refine ah.out.mono ?_;rintro e w9 ⟨rfl,aN⟩;have J:Hid (Below a.heap.size a w9):=hid (H.out.trans (aN.mono H.out.size));clear aN;cases tw with
     |true=>
      have d:Hid (checkN sclr ns root=8):=hid (by rw[P.out,if_neg (by rw[ao.out];simp),if_neg (by rw[ag.out];simp),if_pos af.out]);go_wp2;go_ret;rw[d.out];exact⟨rfl,j.out _ J.out⟩
     |false=>
      have E:Hid (checkN sclr ns root=if(depth ns root).1>32 then 5 else 0):=hid (by rw[P.out,if_neg (by rw[ao.out];simp),if_neg (by rw[ag.out];simp),if_neg (by rw[af.out];simp)]);have HD:=hid (zh6 A c root vs ns C hl l b s.out w9 (I.out w9 J.out));obtain⟨q0,q1⟩:=Z.out w9 J.out;obtain⟨dv,am⟩:=ex ((depth ns root).1)
      obtain⟨da,aB⟩:=ex ((depth ns root).2)
      rw[am]at E;rw[am,aB]at HD;clear am aB p0 p1;go_wp2_with fail;refine HD.out.mono ?_;rintro e ba ⟨rfl,aa⟩;have ac:Hid (Below a.heap.size a ba):=hid (J.out.trans (aa.mono J.out.size));clear aa;by_cases hd:dv>32
      .have d:Hid (checkN sclr ns root=5):=hid (by rw[E.out,if_pos hd]);go_wp2;go_ret;rw[d.out];exact⟨rfl,j.out _ ac.out⟩
      .have d:Hid (checkN sclr ns root=0):=hid (by rw[E.out,if_neg hd]);go_wp2;go_ret;rw[d.out];exact⟨rfl,j.out _ ac.out⟩
def checkI (sclr:Int->Gr.Str->Bool) (is:List Gr.Ni) (root:Int):Nat:=
 if is.length>4096 then 7 else if is.length=0\/indB is root=false then 3 else checkN sclr (is.map Gr.Ni.nd) root.toNat
theorem ze6 (T:World->Prop) (hT:Stays T) (sclr:Int->Gr.Str->Bool) (A:Option Addr) (c:Nat) (root:Int) (vs:List NV) (is:List Gr.Ni) (hks:NH (is.map Gr.Ni.nd)) (hsc:ScalsOk T sclr (is.map Gr.Ni.nd)) (hl:is.length<=1073741823) (w:World) (hTw:T w) (h:IAt w w.heap.size A vs is):
 Calls prog 13 #[.agg #[.slice A is.length c,.int .i64 root]] w fun e w'=>e=.returned (.int .i64 (checkI sclr is root:Nat))/\Below w.heap.size w w':=by
 by_cases h1:is.length>4096
 .have f:Hid (checkI sclr is root=7):=hid (by unfold checkI;rw[if_pos h1]);have d:(4096:Int)<(is.length:Int):=by omega
  clear hsc hks hTw h;go_enter func13,ntmps13;go_wp2;go_ret;rw[f.out];exact⟨rfl,(Below.refl _ _).alloc (Nat.le_refl _) _⟩
 .have d:¬(4096:Int)<(is.length:Int):=by omega
  by_cases h2:is.length=0
  .have f:Hid (checkI sclr is root=3):=hid (by unfold checkI;rw[if_neg h1,if_pos (.inl h2)]);obtain rfl:=List.eq_nil_of_length_eq_zero h2;clear hsc hks hTw h h1 d h2;go_enter func13,ntmps13;go_wp2;go_ret;rw[f.out];exact⟨rfl,(Below.refl _ _).alloc (Nat.le_refl _) _⟩
  .have h2b:((is.length:Int)==0)=false:=by rw[beq_eq_false_iff_ne];omega
   cases hin:indB is root with
   |false=>
    have f:Hid (checkI sclr is root=3):=hid (by unfold checkI;rw[if_neg h1,if_pos (.inr hin)]);obtain⟨k,b⟩:=ex (w.alloc (.cells #[.slice A is.length c,.int .i64 root] 27))
    have i:Below w.heap.size w k:=by rw[<-b];exact(Below.refl _ _).alloc (Nat.le_refl _) _
    have l:=ze4 A c root vs is hl (fun n p=>by
     have:=hks n.nd (List.mem_map_of_mem p);simp only[Gr.Ni.nd,List.length_map]at this;exact⟨this.1,this.2.1⟩) k ((h.below i).more i.size)
    rw[hin]at l;have q:=hid l;have m:=hid i;clear hsc hks hTw h hin l i;go_enter func13,ntmps13;go_upto_region 1 with fail;have o:Blk k w.heap.size 27 #[.slice A is.length c,.int .i64 root]:=by rw[<-b];exact Blk.new _ _ _
    obtain⟨g0,g1⟩:=cells2 o;(try rw[b]);clear b o;go_wp2_with fail;refine q.out.mono ?_;rintro e w2 ⟨rfl,g⟩;have j:=hid (m.out.trans (g.mono m.out.size));clear g;go_wp2;go_ret;rw[f.out];exact⟨rfl,j.out⟩
   |true=>
    have a:=hin;unfold indB at a;rw[Bool.and_eq_true]at a;have hr0:0<=root:=by have:=a.1;unfold inR at this;simp at this;exact this.1
    obtain⟨r,rfl⟩:∃r:Nat,root=(r:Int):=⟨root.toNat,by omega⟩
    have:=zmd T hT sclr A c r vs is (is.map Gr.Ni.nd) rfl (by simp;omega) (by simp;omega) hks hin hsc w hTw h;rw[List.length_map]at this;have e:checkI sclr is (r:Int)=checkN sclr (is.map Gr.Ni.nd) r:=by
     unfold checkI;rw[if_neg h1,if_neg (by rw[hin];simp[h2]),Int.toNat_natCast]
    rw[e];exact this
namespace Gr
open Classical in
noncomputable def wt (sc:Nat->List Nat) (n v:Nat):Nat:=(List.range n).countP (fun i=>decide (Reach sc v i/\Reach sc i v))
structure LongR (sc:Nat->List Nat) (n:Nat) (F:Nat->Nat):Prop where
 up:∀v u,v<n->u<n->Reach sc v u->Reach sc u v->∀x∈sc u,¬Reach sc x v->wt sc n v+F x<=F v
 att:∀v,v<n->F v=wt sc n v\/∃u,u<n/\Reach sc v u/\Reach sc u v/\∃x∈sc u,¬Reach sc x v/\F v=wt sc n v+F x
theorem zqv (sc:Nat->List Nat) (n v:Nat) (h:v<n):0<wt sc n v:=by
 unfold wt;exact List.countP_pos_iff.2 ⟨v,List.mem_range.2 h,by simpa using Reach.refl v⟩
section
variable {ns:List Nd} {root:Nat}
theorem zqw (h:Refs ns) (hr:root<ns.length) (hall:∀v,v<ns.length->Reach (succ ns) root v):
 ∃F:Nat->Nat,LongR (succ ns) ns.length F/\(depth ns root).1=(F root:Int)-1/\((depth ns root).2=true↔∀u,u<ns.length->∀x∈succ ns u,¬Reach (succ ns) x u):=by
 obtain⟨d,q,F,h0,h1,l,p,j,r,h6⟩:=zlq h hr hall;have o:∀v,v<ns.length->q v=wt (succ ns) ns.length v:=by
  intro v c;rw[p v c];unfold wt;apply List.countP_congr;intro i s;have:=l i v (List.mem_range.1 s) c;simp only[beq_iff_eq,decide_eq_true_eq];rw[this];exact And.comm
 have m:∀v u x,v<ns.length->u<ns.length->Reach (succ ns) v u->Reach (succ ns) u v->x∈succ ns u->(d x≠d u↔¬Reach (succ ns) x v):=by
  intro v u x c g a b f;have:=l x u (h.succ u x f) g;rw[ne_eq,this];constructor
  .exact fun k e=>k ⟨e.trans a,.one f⟩
  .exact fun k e=>k (e.1.trans b)
 refine⟨F,⟨fun v u c g a b x f n=>?_,fun v c=>?_⟩,r,?_⟩
 .have e:d u=d v:=(l u v g c).2 ⟨b,a⟩;have:=j.up u g x f ((m v u x c g a b f).2 n);rw[j.same u v e,j.szs u v e,o v c]at this;exact this
 .rcases j.att v c with a|⟨u,g,e,x,f,n,he⟩
  .exact .inl (a.trans (o v c))
  .grind
 .grind
theorem zdb {u:Nat} (hu:u<ns.length):succ ns u=ns[u].keys++ns[u].items:=by unfold succ;rw[List.getElem?_eq_getElem hu]
theorem zm7 (h:Refs ns) (hr:root<ns.length) (hall:∀v,v<ns.length->Reach (succ ns) root v) (hone:∀x,x<ns.length->mkd (inKeys ns) x=true->(counts ns root).getD x 0=1):
 (∀u,u<ns.length->∀x∈succ ns u,¬Reach (succ ns) x u)↔∀(u:Nat) (hu:u<ns.length),∀x∈ns[u].items,¬Reach (succ ns) x u:=by
 constructor
 .intro k u hu x a;exact k u hu x (by rw[zdb hu];exact List.mem_append_right _ a)
 .intro k u hu x a;have b:=a;rw[zdb hu]at b;rcases List.mem_append.1 b with hk|hi
  .intro e;have d:=h.succ u x a;have c:mkd (inKeys ns) x=true:=(zau h x).2 ⟨x,List.mem_flatMap.2 ⟨_,List.getElem_mem hu,hk⟩,.refl _⟩;cases e with
   |refl=>exact zg5 h hr hall hone d c a (.refl _)
   |step h1 h2=>exact zg5 h hr hall hone d c h1 (h2.trans (.one a))
  .exact k u hu x hi
end
end Gr
theorem zig {w:World} {g:Nat} {t:TypeId} {cs:Array Value} (h:w.heap.size=g):Blk (w.alloc (.cells cs t)) g t cs:=by subst h;exact Blk.new _ _ _
theorem zk6 (s:Gr.Str) (hl:s.length<=1073741823) (w:World):Calls prog 55 #[.string ⟨s.toArray⟩] w (RPost (rdT s) w):=by
 go_enter func55,ntmps55;go_upto_region 4 with fail;obtain⟨c,b⟩:=ex (((((w.alloc (.cells #[.string ⟨s.toArray⟩] 9)).alloc (.cells #[.int .i64 0,.int .i64 0,.int .i64 0,.int .i64 0,.int .i64 0,.int .i64 0,.int .i64 0,.int .i64 0,.int .i64 0,.int .i64 0,.int .u8 0] 97)).alloc (.cells #[.int .i64 0,.int .i64 0,.int .i64 0,.int .i64 0,.int .i64 0,.int .i64 0,.int .i64 0,.int .i64 0,.int .i64 0,.int .i64 0,.int .u8 0] 97)).alloc (.cells #[.int .i64 0] 3)).alloc (.cells #[.func (.func 83) #[] #[.pointer (some ⟨w.heap.size+1+1+1,0,none⟩),.pointer (some ⟨w.heap.size,0,none⟩)]] 127))
 have e:Blk c (w.heap.size) 9 #[.string ⟨s.toArray⟩]:=by rw[<-b];exact((((zig (by simp)).alloc _).alloc _).alloc _).alloc _
 have d:Blk c (w.heap.size+1) 97 #[.int .i64 0,.int .i64 0,.int .i64 0,.int .i64 0,.int .i64 0,.int .i64 0,.int .i64 0,.int .i64 0,.int .i64 0,.int .i64 0,.int .u8 0]:=by rw[<-b];exact(((zig (by simp)).alloc _).alloc _).alloc _
 have i:Blk c (w.heap.size+1+1) 97 #[.int .i64 0,.int .i64 0,.int .i64 0,.int .i64 0,.int .i64 0,.int .i64 0,.int .i64 0,.int .i64 0,.int .i64 0,.int .i64 0,.int .u8 0]:=by rw[<-b];exact((zig (by simp)).alloc _).alloc _
 have f:Blk c (w.heap.size+1+1+1) 3 #[.int .i64 0]:=by rw[<-b];exact(zig (by simp)).alloc _
 have g:Blk c (w.heap.size+1+1+1+1) 127 #[.func (.func 83) #[] #[.pointer (some ⟨w.heap.size+1+1+1,0,none⟩),.pointer (some ⟨w.heap.size,0,none⟩)]]:=by rw[<-b];exact zig (by simp)
 have h:Below w.heap.size w c:=by rw[<-b];exact(((((Below.refl _ _).alloc (Nat.le_refl _) _).alloc (by simp) _).alloc (by simp;omega) _).alloc (by simp;omega) _).alloc (by simp;omega) _
 have k:Hid (RMem s w (w.heap.size) (w.heap.size+1) (w.heap.size+1+1) (w.heap.size+1+1+1) (w.heap.size+1+1+1+1) 0 (fun _=>0) 0 0 0 c):=Lib.hid ⟨h,by omega,by omega,by omega,by omega,e,d,i,f,g⟩;(try rw[b]);clear b e d i f g h;go_cut [7] (fun s7 j=>s7=.func (.func 84) #[] #[.pointer (some ⟨w.heap.size+1+1+1,0,none⟩),.pointer (some ⟨w.heap.size,0,none⟩),.pointer (some ⟨w.heap.size+1+1+1+1,0,none⟩)]/\j=c)
 case first=>
  go_wp2;go_meet;exact⟨rfl,rfl⟩
 case rest=>
 obtain⟨rfl,rfl⟩:=hcut;refine(‹∀(a:Act) (w_1:World),Code.wp prog _ _ a w_1->_›) _ _ ?_;exact zwb s hl w _ _ _ _ _ _ (rdT s) k (Lib.hid rfl)
def zdm (b:Bool) (w:World) (e:Ending) (w':World):Prop:=∃t:RT,e=.returned (.tuple #[t.v,.bool b])/\Below w.heap.size w w'
theorem zmp (s:Gr.Str) (hl:s.length<=1073741823) (w:World):
 Calls prog 122 #[.string ⟨s.toArray⟩] w (zdm (insB s) w):=by
 have R:=hid (fun W=>zed s hl W);have aa:=hid (fun W=>zc6 s hl W);have S:Hid (insB s=decide ((insP s).2=0/\(insP s).1=s)):=hid rfl;obtain⟨r,hr⟩:=ex (insB s)
 rw[hr]at S ⊢;obtain⟨⟨l,k⟩,hp⟩:∃p,insP s=p:=⟨_,rfl⟩
 rw[hp]at R S;obtain⟨y,J⟩:∃y:Int,(k:Int)=y:=⟨_,rfl⟩
 unfold RIPost at R;simp only[J]at R S;have HK:=hid J;clear hr hp J;have hc:y≠0\/(y=0/\l≠s)\/(y=0/\l=s):=by
  by_cases h0:y=0
  .by_cases hs:l=s
   .exact .inr (.inr ⟨h0,hs⟩)
   .exact .inr (.inl ⟨h0,hs⟩)
  .exact .inl h0
 rcases hc with h0|⟨rfl,hs⟩|⟨rfl,hs⟩
 .have Y:(y==0)=false:=by simpa using h0
  have h0c:(y != 0)=true:=by rw[bne,Y];rfl
  have T:Hid (r=false):=hid (by rw[S.out];simp;intro e;exact absurd (by have:=HK.out;omega) h0);go_enter func122,ntmps122;go_upto_region 1 with fail;obtain⟨a,b⟩:=ex w.heap.size
  obtain⟨n,g⟩:∃n,n=w.alloc (.cells #[.bool false,.bool false,.bool false,.int .i64 0,.int .i64 0,.int .i64 0,.int .i64 0,.int .i64 0,.int .i64 0,.int .i64 0,.int .i64 0,.bool false] 165):=⟨_,rfl⟩
  have c:Hid (Blk n a 165 (T12 false false false 0 0 0 0 0 0 0 0 false)/\Below a w n):=hid (by rw[g,<-b];exact⟨Blk.new _ _ _,(Below.refl _ _).alloc (Nat.le_refl _) _⟩);have q:=hid b;(try rw[<-g]);(try rw[b]);clear g b;go_wp2_with fail;refine(R.out _).mono ?_;rintro e h ⟨rfl,f⟩;have d:Hid (Blk h a 165 (T12 false false false 0 0 0 0 0 0 0 0 false)/\Below a w h):=hid ⟨c.out.1.below f c.out.1.lt,c.out.2.trans (f.mono (Nat.le_of_lt c.out.1.lt))⟩;clear f;have xb:∀j,h.cell? ⟨a,j,none⟩=(#[.bool false,.bool false,.bool false,.int .i64 0,.int .i64 0,.int .i64 0,.int .i64 0,.int .i64 0,.int .i64 0,.int .i64 0,.int .i64 0,.bool false]:Array Value)[j]? :=fun j=>d.out.1.cell j
  have xf:∀j,h.frozen? ⟨a,j,none⟩=false:=d.out.1.frozen;go_wp2_with fail;have t:Blk ((((((((((((h.setCell ⟨a,0,none⟩ (.bool false)).setCell ⟨a,1,none⟩ (.bool false)).setCell ⟨a,2,none⟩ (.bool false)).setCell ⟨a,3,none⟩ (.int .i64 0)).setCell ⟨a,4,none⟩ (.int .i64 0)).setCell ⟨a,5,none⟩ (.int .i64 0)).setCell ⟨a,6,none⟩ (.int .i64 0)).setCell ⟨a,7,none⟩ (.int .i64 0)).setCell ⟨a,8,none⟩ (.int .i64 0)).setCell ⟨a,9,none⟩ (.int .i64 0)).setCell ⟨a,10,none⟩ (.int .i64 0)).setCell ⟨a,11,none⟩ (.bool false)) a 165 (T12 false false false 0 0 0 0 0 0 0 0 false):=za9 d.out.1;have o:Below a w ((((((((((((h.setCell ⟨a,0,none⟩ (.bool false)).setCell ⟨a,1,none⟩ (.bool false)).setCell ⟨a,2,none⟩ (.bool false)).setCell ⟨a,3,none⟩ (.int .i64 0)).setCell ⟨a,4,none⟩ (.int .i64 0)).setCell ⟨a,5,none⟩ (.int .i64 0)).setCell ⟨a,6,none⟩ (.int .i64 0)).setCell ⟨a,7,none⟩ (.int .i64 0)).setCell ⟨a,8,none⟩ (.int .i64 0)).setCell ⟨a,9,none⟩ (.int .i64 0)).setCell ⟨a,10,none⟩ (.int .i64 0)).setCell ⟨a,11,none⟩ (.bool false)):=zca d.out.2 (Nat.le_refl a);obtain⟨e0,e1,e2,e3,e4,e5,e6,e7,e8,e9,V,U⟩:=zag t;refine bodyPost_ret (v:=.tuple #[.agg #[.bool false,.bool false,.bool false,.int .i64 0,.int .i64 0,.int .i64 0,.int .i64 0,.int .i64 0,.int .i64 0,.int .i64 0,.int .i64 0,.bool false],.bool false]) (by rw[results_cell_tmp rfl];go_simp) rfl ?_;unfold zdm;rw[q.out,T.out];exact⟨RT.z,rfl,o⟩
 .have Q:(l==s)=false:=by rw[beq_eq_false_iff_ne];exact hs
  have Z:(l != s)=true:=by rw[bne,Q];rfl
  have T:Hid (r=false):=hid (by rw[S.out];simp[hs]);clear hs;go_enter func122,ntmps122;go_upto_region 1 with fail;obtain⟨a,b⟩:=ex w.heap.size
  obtain⟨n,g⟩:∃n,n=w.alloc (.cells #[.bool false,.bool false,.bool false,.int .i64 0,.int .i64 0,.int .i64 0,.int .i64 0,.int .i64 0,.int .i64 0,.int .i64 0,.int .i64 0,.bool false] 165):=⟨_,rfl⟩
  have c:Hid (Blk n a 165 (T12 false false false 0 0 0 0 0 0 0 0 false)/\Below a w n):=hid (by rw[g,<-b];exact⟨Blk.new _ _ _,(Below.refl _ _).alloc (Nat.le_refl _) _⟩);have q:=hid b;(try rw[<-g]);(try rw[b]);clear g b;go_wp2_with fail;refine(R.out _).mono ?_;rintro e h ⟨rfl,f⟩;have d:Hid (Blk h a 165 (T12 false false false 0 0 0 0 0 0 0 0 false)/\Below a w h):=hid ⟨c.out.1.below f c.out.1.lt,c.out.2.trans (f.mono (Nat.le_of_lt c.out.1.lt))⟩;clear f;have xb:∀j,h.cell? ⟨a,j,none⟩=(#[.bool false,.bool false,.bool false,.int .i64 0,.int .i64 0,.int .i64 0,.int .i64 0,.int .i64 0,.int .i64 0,.int .i64 0,.int .i64 0,.bool false]:Array Value)[j]? :=fun j=>d.out.1.cell j
  have xf:∀j,h.frozen? ⟨a,j,none⟩=false:=d.out.1.frozen;go_wp2_with fail;have t:Blk ((((((((((((h.setCell ⟨a,0,none⟩ (.bool false)).setCell ⟨a,1,none⟩ (.bool false)).setCell ⟨a,2,none⟩ (.bool false)).setCell ⟨a,3,none⟩ (.int .i64 0)).setCell ⟨a,4,none⟩ (.int .i64 0)).setCell ⟨a,5,none⟩ (.int .i64 0)).setCell ⟨a,6,none⟩ (.int .i64 0)).setCell ⟨a,7,none⟩ (.int .i64 0)).setCell ⟨a,8,none⟩ (.int .i64 0)).setCell ⟨a,9,none⟩ (.int .i64 0)).setCell ⟨a,10,none⟩ (.int .i64 0)).setCell ⟨a,11,none⟩ (.bool false)) a 165 (T12 false false false 0 0 0 0 0 0 0 0 false):=za9 d.out.1;have o:Below a w ((((((((((((h.setCell ⟨a,0,none⟩ (.bool false)).setCell ⟨a,1,none⟩ (.bool false)).setCell ⟨a,2,none⟩ (.bool false)).setCell ⟨a,3,none⟩ (.int .i64 0)).setCell ⟨a,4,none⟩ (.int .i64 0)).setCell ⟨a,5,none⟩ (.int .i64 0)).setCell ⟨a,6,none⟩ (.int .i64 0)).setCell ⟨a,7,none⟩ (.int .i64 0)).setCell ⟨a,8,none⟩ (.int .i64 0)).setCell ⟨a,9,none⟩ (.int .i64 0)).setCell ⟨a,10,none⟩ (.int .i64 0)).setCell ⟨a,11,none⟩ (.bool false)):=zca d.out.2 (Nat.le_refl a);obtain⟨e0,e1,e2,e3,e4,e5,e6,e7,e8,e9,V,U⟩:=zag t;refine bodyPost_ret (v:=.tuple #[.agg #[.bool false,.bool false,.bool false,.int .i64 0,.int .i64 0,.int .i64 0,.int .i64 0,.int .i64 0,.int .i64 0,.int .i64 0,.int .i64 0,.bool false],.bool false]) (by rw[results_cell_tmp rfl];go_simp) rfl ?_;unfold zdm;rw[q.out,T.out];exact⟨RT.z,rfl,o⟩
 .have Q:(l==s)=true:=by rw[beq_iff_eq];exact hs
  have Z:(l != s)=false:=by rw[bne,Q];rfl
  have T:Hid (r=true):=hid (by rw[S.out];simp[hs];have:=HK.out;omega);clear hs;go_enter func122,ntmps122;go_upto_region 1 with fail;obtain⟨a,b⟩:=ex w.heap.size
  obtain⟨n,g⟩:∃n,n=w.alloc (.cells #[.bool false,.bool false,.bool false,.int .i64 0,.int .i64 0,.int .i64 0,.int .i64 0,.int .i64 0,.int .i64 0,.int .i64 0,.int .i64 0,.bool false] 165):=⟨_,rfl⟩
  have c:Hid (Blk n a 165 (T12 false false false 0 0 0 0 0 0 0 0 false)/\Below a w n):=hid (by rw[g,<-b];exact⟨Blk.new _ _ _,(Below.refl _ _).alloc (Nat.le_refl _) _⟩);have q:=hid b;(try rw[<-g]);(try rw[b]);clear g b;go_wp2_with fail;refine(R.out _).mono ?_;rintro e h ⟨rfl,f⟩;have d:Hid (Blk h a 165 (T12 false false false 0 0 0 0 0 0 0 0 false)/\Below a w h):=hid ⟨c.out.1.below f c.out.1.lt,c.out.2.trans (f.mono (Nat.le_of_lt c.out.1.lt))⟩;clear f;go_wp2_with fail;refine(aa.out _).mono ?_;rintro e X ⟨⟨F,H,K,D,N,I,L,G,A,P,m,i⟩,ok,rfl,O,_⟩;have B:Hid (Blk X a 165 (T12 false false false 0 0 0 0 0 0 0 0 false)/\Below a w X):=hid ⟨d.out.1.below O d.out.1.lt,d.out.2.trans (O.mono (Nat.le_of_lt d.out.1.lt))⟩;clear O;simp only[RT.v];go_upto_region 5 with fail;obtain⟨g6,M⟩:=ex X.heap.size
  obtain⟨x,E⟩:=ex (X.alloc (.cells #[.bool F,.bool H,.bool K,.int .i64 D,.int .i64 N,.int .i64 I,.int .i64 L,.int .i64 G,.int .i64 A,.int .i64 P,.int .i64 m,.bool i] 165))
  have C:Hid (Blk x a 165 (T12 false false false 0 0 0 0 0 0 0 0 false)/\Below a w x/\Blk x g6 165 (T12 F H K D N I L G A P m i)):=hid (by rw[<-E,<-M];exact⟨B.out.1.alloc _,B.out.2.alloc (Nat.le_of_lt B.out.1.lt) _,Blk.new _ _ _⟩);(try rw[E]);(try rw[M]);clear E M;obtain⟨q0,q1,q2,q3,q4,q5,q6,q7,q8,q9,q10,q11⟩:=zag C.out.2.2;have u:Hid (Blk x a 165 (T12 false false false 0 0 0 0 0 0 0 0 false)/\Below a w x):=hid ⟨C.out.1,C.out.2.1⟩;have xb:∀j,x.cell? ⟨a,j,none⟩=(#[.bool false,.bool false,.bool false,.int .i64 0,.int .i64 0,.int .i64 0,.int .i64 0,.int .i64 0,.int .i64 0,.int .i64 0,.int .i64 0,.bool false]:Array Value)[j]? :=fun j=>u.out.1.cell j
  have xf:∀j,x.frozen? ⟨a,j,none⟩=false:=u.out.1.frozen;go_wp2_with fail;have t:Blk ((((((((((((x.setCell ⟨a,0,none⟩ (.bool F)).setCell ⟨a,1,none⟩ (.bool H)).setCell ⟨a,2,none⟩ (.bool K)).setCell ⟨a,3,none⟩ (.int .i64 D)).setCell ⟨a,4,none⟩ (.int .i64 N)).setCell ⟨a,5,none⟩ (.int .i64 I)).setCell ⟨a,6,none⟩ (.int .i64 L)).setCell ⟨a,7,none⟩ (.int .i64 G)).setCell ⟨a,8,none⟩ (.int .i64 A)).setCell ⟨a,9,none⟩ (.int .i64 P)).setCell ⟨a,10,none⟩ (.int .i64 m)).setCell ⟨a,11,none⟩ (.bool i)) a 165 (T12 F H K D N I L G A P m i):=za9 u.out.1;have o:Below a w ((((((((((((x.setCell ⟨a,0,none⟩ (.bool F)).setCell ⟨a,1,none⟩ (.bool H)).setCell ⟨a,2,none⟩ (.bool K)).setCell ⟨a,3,none⟩ (.int .i64 D)).setCell ⟨a,4,none⟩ (.int .i64 N)).setCell ⟨a,5,none⟩ (.int .i64 I)).setCell ⟨a,6,none⟩ (.int .i64 L)).setCell ⟨a,7,none⟩ (.int .i64 G)).setCell ⟨a,8,none⟩ (.int .i64 A)).setCell ⟨a,9,none⟩ (.int .i64 P)).setCell ⟨a,10,none⟩ (.int .i64 m)).setCell ⟨a,11,none⟩ (.bool i)):=zca u.out.2 (Nat.le_refl a);obtain⟨e0,e1,e2,e3,e4,e5,e6,e7,e8,e9,V,U⟩:=zag t;refine bodyPost_ret (v:=.tuple #[.agg #[.bool F,.bool H,.bool K,.int .i64 D,.int .i64 N,.int .i64 I,.int .i64 L,.int .i64 G,.int .i64 A,.int .i64 P,.int .i64 m,.bool i],.bool true]) (by rw[results_cell_tmp rfl];go_simp) rfl ?_;unfold zdm;rw[q.out,T.out];exact⟨⟨F,H,K,D,N,I,L,G,A,P,m,i⟩,rfl,o⟩
theorem zij (s:Gr.Str) (hl:s.length<=1073741823) (w:World):
 Calls prog 92 #[.string ⟨s.toArray⟩] w fun e w'=>e=.returned (.bool (insB s))/\Below w.heap.size w w':=by
 have d:=hid (zmp s hl w);obtain⟨r,c⟩:=ex (insB s)
 rw[c]at d ⊢;clear c;go_enter func92,ntmps92;go_wp2_with fail;refine d.out.mono ?_;rintro e w1 ⟨⟨t0,t1,t2,t3,t4,t5,t6,t7,t8,t9,t10,t11⟩,rfl,a⟩;have b:=hid a;clear a;simp only[RT.v];go_wp2;go_ret;exact⟨rfl,b.out.alloc b.out.size _⟩
theorem zwi {s:Gr.Str} {a:Nat} {z:Gr.Zn} (h:zoneAt s a=some z):(z.z=90/\z.h=0/\z.m=0)\/z.z=43\/z.z=45:=by
 unfold zoneAt at h;split at h
 .grind
 .split at h
  .split at h
   .rename_i hb;injection h with h
    subst h;right;simp only[Bool.and_eq_true,Bool.or_eq_true]at hb;show s.getD a 0=43\/s.getD a 0=45;rcases hb.1 with h1|h1
    .unfold isAt at h1;have:=eq_of_beq h1;left;simp[List.getD_eq_getElem?_getD,this]
    .unfold isAt at h1;have:=eq_of_beq h1;right;simp[List.getD_eq_getElem?_getD,this]
   .cases h
  .cases h
theorem mo_z {s:Gr.Str} {x:Gr.Mo} (h:Gr.rd s=some x):(x.z=0\/(x.z=90/\x.zh=0/\x.zm=0)\/x.z=43\/x.z=45)/\(x.time=false->x.nanos=0):=by
 unfold Gr.rd at h;split at h
 .grind
 .split at h
  .grind
  .split at h
   .split at h
    .cases h
    .split at h
     .grind
     .split at h
      .rename_i z hz;split at h
       .injection h with h;subst h;exact⟨.inr (zwi hz),fun e=>by cases e⟩
       .cases h
      .cases h
   .cases h
theorem zya {x:Gr.Mo} (h:MoOk x):decide (((moSh x:Nat):Int)=2)=!x.date:=by
 unfold moSh;rcases h.sh with⟨a,b⟩|⟨a,b,_⟩|⟨a,b,_⟩<;>rw[a,b]<;>decide
theorem zp7 {x:Gr.Mo} (h:MoOk x):prngB ((moSh x:Nat):Int) x.y x.m x.d x.h x.mi x.c x.zh x.zm=okR x:=by
 unfold prngB okR;rw[zya h]
theorem psecs {x:Gr.Mo} (hz:(x.z=90/\x.zh=0/\x.zm=0)\/x.z=43\/x.z=45):
 (if((x.z.toNat:Nat):Int)=43 then Cal.num x.y x.m x.d*86400+(x.h:Int)*3600+(x.mi:Int)*60+(x.c:Int)-((x.zh:Int)*3600+(x.zm:Int)*60)else Cal.num x.y x.m x.d*86400+(x.h:Int)*3600+(x.mi:Int)*60+(x.c:Int)+((x.zh:Int)*3600+(x.zm:Int)*60))=secs x:=by
 unfold secs offS;rcases hz with⟨h,h1,h2⟩|h|h
 .omega
 .rw[h,if_pos (by decide),if_neg (by decide)];omega
 .rw[h,if_neg (by decide),if_pos rfl];omega
theorem u8_z {z:UInt8} (h:z≠0):((z.toNat:Nat):Int)≠0:=by
 intro e;apply h;apply UInt8.toNat_inj.1;simpa using e
theorem zik {s:Gr.Str} (hl:s.length<=1073741823) (h:Gr.rd s=none) (w:World):Calls Tryz.prog 55 #[.string ⟨s.toArray⟩] w fun e w'=>Below w.heap.size w w'/\∃(sh y m d h mi c zh zm n z:Nat),e=.returned (.tuple #[.agg #[.int .i64 (sh:Int),.int .i64 (y:Int),.int .i64 (m:Int),.int .i64 (d:Int),.int .i64 (h:Int),.int .i64 (mi:Int),.int .i64 (c:Int),.int .i64 (zh:Int),.int .i64 (zm:Int),.int .i64 (n:Int),.int .u8 (z:Int)],.bool false]):=by
 refine(zk6 s hl w).mono ?_;rintro e w' ⟨a,sh,f,b,z,g,_⟩;refine⟨a,sh,f 0,f 1,f 2,f 3,f 4,f 5,f 6,f 7,b,z,?_⟩;rw[g];unfold rdT;rw[h];rfl
theorem zfc {s:Gr.Str} {x:Gr.Mo} (hl:s.length<=1073741823) (h:Gr.rd s=some x) (w:World):Calls Tryz.prog 55 #[.string ⟨s.toArray⟩] w fun e w'=>e=.returned (.tuple #[.agg #[.int .i64 ((moSh x:Nat):Int),.int .i64 (x.y:Int),.int .i64 (x.m:Int),.int .i64 (x.d:Int),.int .i64 (x.h:Int),.int .i64 (x.mi:Int),.int .i64 (x.c:Int),.int .i64 (x.zh:Int),.int .i64 (x.zm:Int),.int .i64 (x.nanos:Int),.int .u8 ((x.z.toNat:Nat):Int)],.bool true])/\Below w.heap.size w w':=by
 refine(zk6 s hl w).mono ?_;rintro e w' ⟨b,sh,f,nn,z,j,g⟩;refine⟨?_,b⟩;have a:rdT s=some (moC x):=by unfold rdT;rw[h];rfl
 have i:=g _ a;rw[j,a,<-i];rfl
end Go.Proofs.YtpjmhafmeieloabGreatDoor

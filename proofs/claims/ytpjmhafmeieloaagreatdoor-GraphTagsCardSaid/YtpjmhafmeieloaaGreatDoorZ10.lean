import Derived.Test.YtpjmhafmeieloaaGreatDoorGrSame
import Derived.Test.YtpjmhafmeieloaaGreatDoorZ19
import Derived.Test.YtpjmhafmeieloaaGreatDoorZ14
namespace Go.Proofs.YtpjmhafmeieloaaGreatDoor
namespace Gr
theorem zo2 (L:List Nat):∀(l:List Nat) (x:Nat),x<l.length->(L.foldl cstep l).getD x 0=l.getD x 0+L.count x:=by
 induction L with
 |nil=>intro l x _;simp
 |cons y L ih=>
  intro l x a;rw[List.foldl_cons,ih (cstep l y) x (by unfold cstep;simpa using a)];unfold cstep;by_cases h:y=x
  .grind
  .grind
theorem zb5 {ns:List Nd} {root x:Nat} (hx:x<ns.length):(counts ns root).getD x 0=(if x=root then 1 else 0)+(refs ns).count x:=by
 unfold counts;rw[zo2 _ _ _ (by unfold cstep;simpa using hx)]
 congr 1
 unfold cstep;have e:∀y,(List.replicate ns.length 0).getD y 0=0:=fun y=>by simp[List.getD_eq_getElem?_getD,List.getElem?_replicate];split<;>rfl
 by_cases h:x=root
 .grind
 .grind
theorem zjn (a b:List Nd):refs (a++b)=refs a++refs b:=by unfold refs;rw[List.flatMap_append]
theorem zsn {ns:List Nd} {a b:Nat} (ha:a<ns.length) (hb:b∈succ ns a):b∈refs ns:=by
 unfold succ at hb;rw[List.getElem?_eq_getElem ha]at hb;exact List.mem_flatMap.2 ⟨_,List.getElem_mem ha,hb⟩
theorem zky {ns:List Nd} {a p b:Nat} (hap:p<a) (ha:a<ns.length) (h1:b∈succ ns a) (h2:b∈succ ns p):2<=(refs ns).count b:=by
 have e:refs ns=refs (ns.take a)++refs (ns.drop a):=by rw[<-zjn,List.take_append_drop]
 rw[e,List.count_append];have d:b∈refs (ns.take a):=by
  unfold succ at h2;rw[List.getElem?_eq_getElem (by omega)]at h2;refine List.mem_flatMap.2 ⟨ns[p],?_,h2⟩;rw[List.mem_take_iff_getElem];exact⟨p,by omega,rfl⟩
 have c:b∈refs (ns.drop a):=by
  unfold succ at h1;rw[List.getElem?_eq_getElem ha]at h1;refine List.mem_flatMap.2 ⟨ns[a],?_,h1⟩;rw[List.mem_drop_iff_getElem];exact⟨0,by omega,by simp⟩
 have:=List.count_pos_iff.2 d;have:=List.count_pos_iff.2 c;omega
section
variable {ns:List Nd} {root:Nat}
theorem Reach.last {sc:Nat->List Nat} {a b:Nat} (h:Reach sc a b):a=b\/∃p,Reach sc a p/\b∈sc p:=by
 induction h with
 |refl=>exact .inl rfl
 |step h1 h2 ih=>
  rcases ih with rfl|⟨p,h3,h4⟩
  .exact .inr ⟨_,.refl _,h1⟩
  .exact .inr ⟨p,.step h1 h3,h4⟩
theorem zg3 (hr:Refs ns) (hroot:root<ns.length) (hall:∀v,v<ns.length->Reach (succ ns) root v) (hone:∀x,x<ns.length->mkd (inKeys ns) x=true->(counts ns root).getD x 0=1) {i x:Nat} (hi:i<ns.length) (hk:mkd (inKeys ns) i=true) (hx:x∈succ ns i):¬Reach (succ ns) x i:=by
 intro A;have n:∀a,a<ns.length->∀b,Reach (succ ns) a b->b<ns.length:=fun a s b h=>h.closed (p:=fun a=>a<ns.length) (fun a _ b g=>hr.succ a b g) s
 have q:∀j,Reach (succ ns) i j->mkd (inKeys ns) j=true:=fun j z=>by
  obtain⟨k,c,f⟩:=(zan hr i).1 hk;exact(zan hr j).2 ⟨k,c,f.trans z⟩
 have d:∀j,Reach (succ ns) i j->Reach (succ ns) j i->∃p,Reach (succ ns) i p/\Reach (succ ns) p i/\j∈succ ns p:=by
  intro j c f;have l:Reach (succ ns) x j:=A.trans c;rcases l.last with h4|⟨p,h4,h5⟩
  .subst h4;exact⟨i,.refl _,.refl _,hx⟩
  .exact⟨p,.step hx h4,.step h5 f,h5⟩
 have o:¬(Reach (succ ns) i i/\Reach (succ ns) i i):=by
  have t:∀v,Reach (succ ns) root v->¬(Reach (succ ns) i v/\Reach (succ ns) v i):=by
   intro v B;refine B.closed (p:=fun v=>¬(Reach (succ ns) i v/\Reach (succ ns) v i)) ?_ ?_
   .rintro a s b g ⟨c,f⟩;obtain⟨p,l,h4,h5⟩:=d b c f;have m:=hr.succ a b g;have r:a≠p:=fun e=>s (e▸⟨l,h4⟩)
    have u:=n i hi p l;have y:a<ns.length:=by
     unfold succ at g;rcases Nat.lt_or_ge a ns.length with h|h
     .exact h
     .grind
    have w:=hone b m (q b c);rw[zb5 m]at w;have:2<=(refs ns).count b:=by
     rcases Nat.lt_or_gt_of_ne r with h|h
     .exact zky h u h5 g
     .exact zky h y g h5
    omega
   .rintro⟨c,f⟩;obtain⟨p,l,h4,h5⟩:=d root c f;have w:=hone root hroot (q root c);rw[zb5 hroot,if_pos rfl]at w;have:=List.count_pos_iff.2 (zsn (n i hi p l) h5);omega
  exact t i (hall i hi)
 exact o ⟨.refl _,.refl _⟩
open Classical in
theorem zvq (hr:Refs ns) (hroot:root<ns.length) (hall:∀v,v<ns.length->Reach (succ ns) root v) (hone:∀x,x<ns.length->mkd (inKeys ns) x=true->(counts ns root).getD x 0=1):∀(f i:Nat),i<ns.length->mkd (inKeys ns) i=true->(List.range ns.length).countP (fun j=>decide (Reach (succ ns) i j))<=f->Tall ns f i:=by
 intro f
 induction f with
 |zero=>
  intro i b _ h;have:0<(List.range ns.length).countP (fun j=>decide (Reach (succ ns) i j)):=List.countP_pos_iff.2 ⟨i,List.mem_range.2 b,by simpa using Reach.refl i⟩;omega
 |succ f ih=>
  intro i b e h x a;have d:=hr.succ i x a;have c:mkd (inKeys ns) x=true:=by
   obtain⟨k,g,m⟩:=(zan hr i).1 e;exact(zan hr x).2 ⟨k,g,m.trans (.one a)⟩
  refine ih x d c ?_;have:=zdh (fun j=>decide (Reach (succ ns) x j)) (fun j=>decide (Reach (succ ns) i j)) (List.range ns.length) (fun j _ l=>by simpa using Reach.step a (by simpa using l)) i (List.mem_range.2 b) (by simpa using zg3 hr hroot hall hone b e a) (by simpa using Reach.refl i);omega
theorem zfa (hr:Refs ns) (hroot:root<ns.length) (hall:∀v,v<ns.length->Reach (succ ns) root v) (hone:∀x,x<ns.length->mkd (inKeys ns) x=true->(counts ns root).getD x 0=1):∀k∈allKeys ns,k<ns.length/\Tall ns ns.length k:=by
 intro k c;have a:k<ns.length:=by
  obtain⟨y,d,b⟩:=List.mem_flatMap.1 c;exact hr y d k (List.mem_append_left _ b)
 exact⟨a,zvq hr hroot hall hone _ k a ((zan hr k).2 ⟨k,c,.refl _⟩) (Nat.le_trans List.countP_le_length (by simp))⟩
end
end Gr
open Gr
open _root_.Go.Proofs.Tryz
open _root_.Go.Lib (hid)
set_option maxRecDepth 100000
set_option maxHeartbeats 16000000
open Go.RowKit
def NH (ns:List Gr.Nd):Prop:=∀n∈ns,n.keys.length<=1073741823/\n.items.length<=1073741823/\n.text.length<=1073741823
theorem zmf (ns:List Gr.Nd) (h:NH ns):(Gr.refs ns).length<=ns.length*2147483646:=by
 induction ns with
 |nil=>simp[Gr.refs]
 |cons x l ih=>
  have h1:=ih (fun n a=>h n (.tail _ a));obtain⟨h2,h3,_⟩:=h x (.head _);have e:Gr.refs (x::l)=(x.keys++x.items)++Gr.refs l:=rfl;rw[e,List.length_append,List.length_append,List.length_cons,Nat.add_mul];omega
theorem zo3 {ns:List Gr.Nd} {i:Nat} (h:i<ns.length):ns.getD i ⟨0,[],false,[],[]⟩=ns[i]:=by
 rw[List.getD_eq_getElem?_getD,List.getElem?_eq_getElem h];rfl
theorem zfx (k:Nat) (f:Nat->Bool):(List.range (k+1)).all f=((List.range k).all f && f k):=by
 rw[List.range_succ,List.all_append];simp
theorem zfy (k:Nat) (f:Nat->Bool):(List.range (k+1)).any f=((List.range k).any f || f k):=by
 rw[List.range_succ,List.any_append];simp
def ScalsOk (T:World->Prop) (sclr:Int->Gr.Str->Bool) (ns:List Gr.Nd):Prop:=∀x∈ns,x.kind≠9->x.kind≠10->x.kind≠11->x.ord=false->x.keys=[]->x.items=[]->ScalOk T x.kind x.text (sclr x.kind x.text)
section
variable (sclr:Int->Gr.Str->Bool) (ns:List Gr.Nd) (root:Nat)
def ok1 (i:Nat):Bool:=(marks ns root).getD i false && formB sclr (ns.getD i ⟨0,[],false,[],[]⟩)
def bad2 (i:Nat):Bool:=(inKeys ns).getD i false && (counts ns root).getD i 0 != 1
theorem zo4:checkN sclr ns root=if(List.range ns.length).all (ok1 sclr ns root)=false then 3 else if(List.range ns.length).any (bad2 ns root)=true then 3 else if twice ns ns.length=true then 8 else if(depth ns root).1>32 then 5 else 0:=by
 unfold checkN;have b:(List.range ns.length).all (ok1 sclr ns root)=(List.range ns.length).all (fun i=>(marks ns root).getD i false && formB sclr (ns.getD i ⟨0,[],false,[],[]⟩)):=rfl;have a:(List.range ns.length).any (bad2 ns root)=(List.range ns.length).any (fun i=>(inKeys ns).getD i false && (counts ns root).getD i 0 != 1):=rfl;rw[b,a];cases(List.range ns.length).all (fun i=>(marks ns root).getD i false && formB sclr (ns.getD i ⟨0,[],false,[],[]⟩))<;>simp
end
theorem zyx {sclr:Int->Gr.Str->Bool} {ns:List Gr.Nd} {root:Nat} (h:(List.range ns.length).all (ok1 sclr ns root)=true):Gr.KF ns/\(∀i,i<ns.length->mkd (marks ns root) i=true):=by
 rw[List.all_eq_true]at h;refine⟨fun n d e=>?_,fun i c=>?_⟩
 .obtain⟨i,c,rfl⟩:=List.getElem_of_mem d;have a:=h i (List.mem_range.2 c);unfold ok1 at a;rw[zo3 c,Bool.and_eq_true]at a;have b:=a.2;unfold formB at b;rw[e]at b;simp at b;exact b.2
 .have a:=h i (List.mem_range.2 c);unfold ok1 at a;rw[Bool.and_eq_true]at a;exact a.1
theorem zmg (T:World->Prop) (hT:Stays T) (sclr:Int->Gr.Str->Bool) (A:Option Addr) (c root:Nat) (vs:List NV) (is:List Gr.Ni) (ns:List Gr.Nd) (hns:is.map Gr.Ni.nd=ns) (hn0:0<ns.length) (hn:ns.length<=4096) (hks:NH ns) (hin:indB is (root:Int)=true)
 (hsc:ScalsOk T sclr ns) (w:World) (hTw:T w) (h:IAt w w.heap.size A vs is):
 Calls prog 13 #[.agg #[.slice A ns.length c,.int .i64 root]] w fun e w'=>e=.returned (.int .i64 (checkN sclr ns root:Nat))/\Below w.heap.size w w':=by
 have ae:is.length=ns.length:=by rw[<-hns];simp
 have aU:=hin;unfold indB at hin;rw[Bool.and_eq_true]at hin;have b:root<ns.length:=by
  have:=hin.1;unfold inR at this;simp at this;omega
 obtain⟨h0,B⟩:=za8 hin.2;rw[hns]at B;have hG:GAt w w.heap.size A vs ns:=by rw[<-hns];exact h.toG h0
 have l:∀n∈ns,n.keys.length<=1073741823/\n.items.length<=1073741823:=fun n hn=>⟨(hks n hn).1,(hks n hn).2.1⟩
 have hl:ns.length<=1073741823:=by omega
 have aQ:Hid (∀W,Below w.heap.size w W->Calls prog 24 #[.agg #[.slice A ns.length c,.int .i64 (root:Int)]] W fun e w'=>e=.returned (.bool true)/\Below W.heap.size W w'):=hid (fun W C=>by
  have:=ze8 A c (root:Int) vs is (by omega) (fun n L=>by
   have:=hks n.nd (by rw[<-hns];exact List.mem_map_of_mem L);simp only[Gr.Ni.nd,List.length_map]at this;exact⟨this.1,this.2.1⟩) W ((h.below C).more C.size)
  rw[ae,aU]at this;exact this)
 have HG:=hid hG;have hmk:=fun W=>zb1 ns.length (by omega) W
 have a9:=hid hTw;have hnI:(ns.length:Int)<=4096:=by omega
 have hn0I:(0:Int)<(ns.length:Int):=by omega
 have hn0b:((ns.length:Int)==0)=false:=by rw[beq_eq_false_iff_ne];omega
 have ba:=hid hsc;have S:=hid (zo4 sclr ns root);clear hns hin aU h0 hG hTw h hsc ae;go_enter func13,ntmps13;go_upto_region 1 with fail;obtain⟨a,U⟩:=ex (w.alloc (.cells #[.slice A ns.length c,.int .i64 root] 24))
 (try rw[U]);have Q:Below w.heap.size w a:=by rw[<-U];exact(Below.refl _ _).alloc (Nat.le_refl _) _
 have Y:Blk a w.heap.size 24 #[.slice A ns.length c,.int .i64 root]:=by rw[<-U];exact Blk.new _ _ _
 obtain⟨gb,O⟩:=ex w.heap.size
 have HGB:=hid O;have L1:=hid Q;(try rw[O]);rw[O]at Y;have HB1:=hid Y;have HS:Hid (∀W,Below a.heap.size a W->W.cell? ⟨gb,0,none⟩=some (.slice A ns.length c)/\W.cell? ⟨gb,1,none⟩=some (.int .i64 (root:Int))):=hid (fun W C=>⟨(Y.below C Y.lt).cell 0,(Y.below C Y.lt).cell 1⟩);have HGL:Hid (gb<a.heap.size):=hid Y.lt;have K:Hid (∀W,Below a.heap.size a W->GAt W W.heap.size A vs ns):=hid (fun W C=>(HG.out.below (Q.trans (C.mono Q.size))).more (Q.trans (C.mono Q.size)).size);have j:Hid (∀W,Below a.heap.size a W->Below w.heap.size w W):=hid (fun W C=>Q.trans (C.mono Q.size));have aE:=aQ.out a Q;have aY:=hid aE;obtain⟨g0,g1⟩:=HS.out a (Below.refl _ _);clear U O Q Y aE;go_wp2_with fail;refine aY.out.mono ?_;rintro e w2 ⟨rfl,al⟩;obtain⟨p0,p1⟩:=HS.out w2 al;have ay:=hid al;clear g0 g1 al;go_upto_region 6 with fail;obtain⟨w3,P⟩:=ex (w2.alloc (.cells (bcells (List.replicate ns.length false)) 4))
 obtain⟨R,N⟩:=ex w2.heap.size
 have l3:Below a.heap.size a w3:=by rw[<-P];exact ay.out.alloc ay.out.size _
 have b3:Blk w3 R 4 (bcells (List.replicate ns.length false)):=by rw[<-P,<-N];exact Blk.new _ _ _
 have ag:a.heap.size<=R:=by rw[<-N];exact ay.out.size
 have HR:=hid (ze0 R A c (root:Int) vs ns w.heap.size B hl l (List.replicate ns.length false) root w3 (HG.out.below (j.out w3 l3)) (by have:=L1.out.size;omega) b3 (by simp) b (zdu _));have HB3:=hid b3;have L3:=hid l3;have bb:=hid ag;rw[P];(try rw[N]);obtain⟨q0,q1⟩:=HS.out w3 l3;clear P N l3 b3 p0 p1 ag;go_wp2_with fail;refine HR.out.mono ?_;rintro e V ⟨rfl,aG,aF⟩;have ar:Below a.heap.size a V:=L3.out.trans (KB.below (g:=R) aG bb.out L3.out.size);have aR:Hid (Blk V R 4 (bcells (marks ns root))):=hid aF;have aZ:Hid ((marks ns root).length=ns.length):=hid (zbq B.succ ns.length (List.replicate ns.length false) root (by simp) b (zdu _)).len;have L4:=hid ar;obtain⟨p0,p1⟩:=HS.out V ar;clear aG aF ar q0 q1;go_upto_region 8 with fail;clear p0 p1;go_loopw [36] (fun s36 wr=>∃i:Nat,i<=ns.length/\s36=.int .i64 i/\Hid (Below a.heap.size a wr/\Below V.heap.size V wr/\(List.range i).all (ok1 sclr ns root)=true)) (fun s36 _=>ns.length-(intOf s36).toNat)
 case atStart=>exact⟨0,by omega,rfl,hid ⟨L4.out,Below.refl _ _,by simp⟩⟩
 case round=>
  obtain⟨i,hi,rfl,s⟩:=hrel;obtain⟨m,bd⟩:∃m,m=wr:=⟨_,rfl⟩
  subst bd;by_cases hlt:i<ns.length
  .have aD:(i:Int)<(ns.length:Int):=by omega
   obtain⟨ad,ks,is,rfl,M⟩:=(K.out m s.out.1).node hlt;obtain⟨ka,kn,kc⟩:=ks;obtain⟨ia,a7,ic⟩:=is;have L:ns[i]∈ns:=List.getElem_mem hlt;obtain⟨z,aB,aK⟩:=hks _ L;have aa:=hid (ba.out _ L);have ao:Hid (ok1 sclr ns root i=((marks ns root).getD i false && formB sclr ns[i])):=hid (by unfold ok1;rw[zo3 hlt]);obtain⟨n,hn⟩:=ex (ns[i])
   rw[hn]at M z aB aK aa ao;obtain rfl:kn=n.keys.length:=M.kn;obtain rfl:a7=n.items.length:=M.inn;have x0:=M.c0;have x1:=M.c1;have x2:=M.c2;have x3:=M.c3;have x4:=M.c4;obtain⟨mk,t⟩:=ex ((marks ns root).getD i false)
   have ak:Blk m R 4 (bcells (marks ns root)):=aR.out.below s.out.2.1 aR.out.lt;have m0:m.cell? ⟨R,i,none⟩=some (.bool mk):=by rw[ak.cell,zah (by rw[aZ.out];exact hlt),t]
   have F:Hid ((List.range (i+1)).all (ok1 sclr ns root)=(mk && formB sclr n)):=hid (by rw[zfx,s.out.2.2,ao.out,t];rfl);have d:Hid ((mk && formB sclr n)=false->checkN sclr ns root=3):=hid (fun e=>by
    rw[S.out,if_pos];rw[List.all_eq_false];exact⟨i,List.mem_range.2 hlt,by rw[ao.out,t,e];simp⟩)
   have H:Below m.heap.size m (m.alloc (.cells #[.int .i64 n.kind,.string ⟨n.text.toArray⟩,.bool n.ord,.slice ka n.keys.length kc,.slice ia n.items.length ic] 36)):=(Below.refl _ _).alloc (Nat.le_refl _) _;have HF:=hid (zsf T hT sclr n.kind n.text n.ord n.keys n.items ka ia kc ic aK z aB (fun a1 a2 a3 a4 a5 a6=>aa.out a1 a2 a3 a4 a5 a6) _ (hT _ _ a9.out ((j.out m s.out.1).trans (H.mono (j.out m s.out.1).size))));have m1:(m.alloc (.cells #[.int .i64 n.kind,.string ⟨n.text.toArray⟩,.bool n.ord,.slice ka n.keys.length kc,.slice ia n.items.length ic] 36)).cell? ⟨R,i,none⟩=some (.bool mk):=(H.cell (p:=⟨R,i,none⟩) ak.lt).trans m0;obtain⟨fb,am⟩:=ex (formB sclr n)
   rw[am]at F d;have aO:formB sclr ⟨n.kind,n.text,n.ord,n.keys,n.items⟩=fb:=am;rw[aO]at HF;have D:Hid (Below a.heap.size a (m.alloc (.cells #[.int .i64 n.kind,.string ⟨n.text.toArray⟩,.bool n.ord,.slice ka n.keys.length kc,.slice ia n.items.length ic] 36))/\Below V.heap.size V (m.alloc (.cells #[.int .i64 n.kind,.string ⟨n.text.toArray⟩,.bool n.ord,.slice ka n.keys.length kc,.slice ia n.items.length ic] 36))):=hid ⟨s.out.1.trans (H.mono s.out.1.size),s.out.2.1.trans (H.mono s.out.2.1.size)⟩;clear M L hn ak t am aO H;cases mk with
   |false=>
    go_wp2;go_ret;rw[d.out rfl];exact⟨rfl,j.out _ D.out.1⟩
   |true=>
    clear m0;go_wp2_with fail;refine HF.out.mono ?_;rintro e w6 ⟨rfl,an⟩;have ax:Hid (Below a.heap.size a w6/\Below V.heap.size V w6):=hid ⟨D.out.1.trans (an.mono D.out.1.size),D.out.2.trans (an.mono D.out.2.size)⟩;clear an;cases fb with
    |false=>
     go_wp2;go_ret;rw[d.out rfl];exact⟨rfl,j.out _ ax.out.1⟩
    |true=>
     go_wp2;go_roundw
     case rel=>exact⟨i+1,by omega,by go_num,hid ⟨ax.out.1,ax.out.2,by rw[F.out];rfl⟩⟩
     case measure=>simp[intOf];omega
  .have aD:¬(i:Int)<(ns.length:Int):=by omega
   have o:(List.range ns.length).all (ok1 sclr ns root)=true:=by
    have:=s.out.2.2;rwa[show i=ns.length from by omega]at this
   obtain⟨aC,u⟩:=zyx o;have q:∀v,v<ns.length->Gr.Reach (Gr.succ ns) root v:=fun v hv=>(za2 B b v).1 (u v hv)
   have a8:=hid aC;have r:=hid q;have av:=hid o;have HC:=hid (zl4 A c root vs ns B hl l (by have:=zmf ns hks;omega) m (K.out m s.out.1) b);obtain⟨p0,p1⟩:=HS.out m s.out.1;clear aC u q o;go_upto_region 13 with fail;go_wp2_with fail;refine HC.out.mono ?_;rintro e w7 ⟨cb,rfl,aW,aA,aT⟩;have X:Hid (Below a.heap.size a w7):=hid (s.out.1.trans (aA.mono s.out.1.size));have aV:=hid aT;have HK:=hid (zl5 A c (root:Int) vs ns B hl l w7 (K.out w7 X.out));obtain⟨q0,q1⟩:=HS.out w7 X.out;clear aW aA aT p0 p1;go_wp2_with fail;refine HK.out.mono ?_;rintro e w8 ⟨kb,rfl,a0,aq,aP⟩;have G:Hid (Below a.heap.size a w8):=hid (X.out.trans (aq.mono X.out.size));have aS:=hid (aV.out.below aq aV.out.lt);have bc:=hid aP;have az:Hid ((inKeys ns).length=ns.length/\(counts ns root).length=ns.length):=hid ⟨ze1 B _ _ (zji B) (by simp),by unfold counts;rw[zb2,zci];simp⟩;clear a0 aq aP q0 q1;go_upto_region 15 with fail;go_loop [57] (fun s57=>∃k:Nat,k<=ns.length/\s57=.int .i64 k/\Hid ((List.range k).any (bad2 ns root)=false)) (fun s57=>ns.length-(intOf s57).toNat)
   case atStart=>exact⟨0,by omega,rfl,hid (by simp)⟩
   case round=>
    obtain⟨k,hk,rfl,HV⟩:=hrel;by_cases z:k<ns.length
    .have aI:(k:Int)<(ns.length:Int):=by omega
     obtain⟨ik,aj⟩:=ex ((inKeys ns).getD k false)
     obtain⟨cv,aw⟩:=ex ((counts ns root).getD k 0)
     have z0:w8.cell? ⟨kb,k,none⟩=some (.bool ik):=by rw[bc.out.cell,zah (by rw[az.out.1];exact z),aj]
     have z1:w8.cell? ⟨cb,k,none⟩=some (.int .i64 (cv:Int)):=by rw[aS.out.cell,zad (by rw[az.out.2];exact z),aw]
     have aM:Hid (bad2 ns root k=(ik && cv != 1)):=hid (by unfold bad2;rw[aj,aw]);have F:Hid ((List.range (k+1)).any (bad2 ns root)=(ik && cv != 1)):=hid (by rw[zfy,HV.out,aM.out];rfl);have d:Hid ((ik && cv != 1)=true->checkN sclr ns root=3):=hid (fun e=>by
      rw[S.out,if_neg (by rw[av.out];simp),if_pos];exact List.any_eq_true.2 ⟨k,List.mem_range.2 z,by rw[aM.out,e]⟩)
     clear aj aw;cases ik with
     |false=>
      clear z1;go_wp2;go_round
      case rel=>exact⟨k+1,by omega,by go_num,hid (by rw[F.out];rfl)⟩
      case measure=>simp[intOf];omega
     |true=>
      by_cases hc1:cv=1
      .subst hc1;go_wp2;go_round
       case rel=>exact⟨k+1,by omega,by go_num,hid (by rw[F.out];rfl)⟩
       case measure=>simp[intOf];omega
      .have aN:¬((cv:Int)=1):=by omega
       have hc1b:((cv:Int)==1)=false:=by rw[beq_eq_false_iff_ne];exact aN
       have aL:Hid (checkN sclr ns root=3):=hid (d.out (by simpa using hc1));go_wp2;go_ret;rw[aL.out];exact⟨rfl,j.out _ G.out⟩
    .have aI:¬(k:Int)<(ns.length:Int):=by omega
     have E:(List.range ns.length).any (bad2 ns root)=false:=by
      have:=HV.out;rwa[show k=ns.length from by omega]at this
     have af:∀x,x<ns.length->mkd (inKeys ns) x=true->(counts ns root).getD x 0=1:=fun x hx hm=>by
      have:=(List.any_eq_false.1 E) x (List.mem_range.2 hx);unfold bad2 at this;unfold mkd at hm;rw[hm]at this;simpa using this
     have f:=zfa B b r.out af;have ac:=hid (zo1 ns.length A c (root:Int) vs ns B hl l (fun x hx y hy W C=>zsm A c (root:Int) vs ns B a8.out hl hks ns.length x y W (f x hx).1 (f y hy).1 (f x hx).2 C) w8 (K.out w8 G.out));have ah:=hid E;obtain⟨p0,p1⟩:=HS.out w8 G.out;obtain⟨tw,au⟩:=ex (twice ns ns.length)
     rw[au]at ac;have ab:=hid au;clear E af f au;go_wp2_with fail;refine ac.out.mono ?_;rintro e w9 ⟨rfl,aJ⟩;have I:Hid (Below a.heap.size a w9):=hid (G.out.trans (aJ.mono G.out.size));clear aJ;cases tw with
     |true=>
      have d:Hid (checkN sclr ns root=8):=hid (by rw[S.out,if_neg (by rw[av.out];simp),if_neg (by rw[ah.out];simp),if_pos ab.out]);go_wp2;go_ret;rw[d.out];exact⟨rfl,j.out _ I.out⟩
     |false=>
      have J:Hid (checkN sclr ns root=if(depth ns root).1>32 then 5 else 0):=hid (by rw[S.out,if_neg (by rw[av.out];simp),if_neg (by rw[ah.out];simp),if_neg (by rw[ab.out];simp)]);have HD:=hid (ze6 A c root vs ns B hl l b r.out w9 (K.out w9 I.out));obtain⟨q0,q1⟩:=HS.out w9 I.out;obtain⟨dv,ap⟩:=ex ((depth ns root).1)
      obtain⟨da,aH⟩:=ex ((depth ns root).2)
      rw[ap]at J;rw[ap,aH]at HD;clear ap aH p0 p1;go_wp2_with fail;refine HD.out.mono ?_;rintro e aX ⟨rfl,Z⟩;have ai:Hid (Below a.heap.size a aX):=hid (I.out.trans (Z.mono I.out.size));clear Z;by_cases hd:dv>32
      .have d:Hid (checkN sclr ns root=5):=hid (by rw[J.out,if_pos hd]);go_wp2;go_ret;rw[d.out];exact⟨rfl,j.out _ ai.out⟩
      .have d:Hid (checkN sclr ns root=0):=hid (by rw[J.out,if_neg hd]);go_wp2;go_ret;rw[d.out];exact⟨rfl,j.out _ ai.out⟩
def checkI (sclr:Int->Gr.Str->Bool) (is:List Gr.Ni) (root:Int):Nat:=
 if is.length>4096 then 7 else if is.length=0\/indB is root=false then 3 else checkN sclr (is.map Gr.Ni.nd) root.toNat
theorem zfc (T:World->Prop) (hT:Stays T) (sclr:Int->Gr.Str->Bool) (A:Option Addr) (c:Nat) (root:Int) (vs:List NV) (is:List Gr.Ni) (hks:NH (is.map Gr.Ni.nd)) (hsc:ScalsOk T sclr (is.map Gr.Ni.nd)) (hl:is.length<=1073741823) (w:World) (hTw:T w) (h:IAt w w.heap.size A vs is):
 Calls prog 13 #[.agg #[.slice A is.length c,.int .i64 root]] w fun e w'=>e=.returned (.int .i64 (checkI sclr is root:Nat))/\Below w.heap.size w w':=by
 by_cases h1:is.length>4096
 .have g:Hid (checkI sclr is root=7):=hid (by unfold checkI;rw[if_pos h1]);have d:(4096:Int)<(is.length:Int):=by omega
  clear hsc hks hTw h;go_enter func13,ntmps13;go_wp2;go_ret;rw[g.out];exact⟨rfl,(Below.refl _ _).alloc (Nat.le_refl _) _⟩
 .have d:¬(4096:Int)<(is.length:Int):=by omega
  by_cases h2:is.length=0
  .have g:Hid (checkI sclr is root=3):=hid (by unfold checkI;rw[if_neg h1,if_pos (.inl h2)]);obtain rfl:=List.eq_nil_of_length_eq_zero h2;clear hsc hks hTw h h1 d h2;go_enter func13,ntmps13;go_wp2;go_ret;rw[g.out];exact⟨rfl,(Below.refl _ _).alloc (Nat.le_refl _) _⟩
  .have h2b:((is.length:Int)==0)=false:=by rw[beq_eq_false_iff_ne];omega
   cases hin:indB is root with
   |false=>
    have g:Hid (checkI sclr is root=3):=hid (by unfold checkI;rw[if_neg h1,if_pos (.inr hin)]);obtain⟨j,b⟩:=ex (w.alloc (.cells #[.slice A is.length c,.int .i64 root] 24))
    have i:Below w.heap.size w j:=by rw[<-b];exact(Below.refl _ _).alloc (Nat.le_refl _) _
    have k:=ze8 A c root vs is hl (fun n q=>by
     have:=hks n.nd (List.mem_map_of_mem q);simp only[Gr.Ni.nd,List.length_map]at this;exact⟨this.1,this.2.1⟩) j ((h.below i).more i.size)
    rw[hin]at k;have p:=hid k;have m:=hid i;clear hsc hks hTw h hin k i;go_enter func13,ntmps13;go_upto_region 1 with fail;have o:Blk j w.heap.size 24 #[.slice A is.length c,.int .i64 root]:=by rw[<-b];exact Blk.new _ _ _
    obtain⟨g0,g1⟩:=cells2 o;(try rw[b]);clear b o;go_wp2_with fail;refine p.out.mono ?_;rintro e w2 ⟨rfl,f⟩;have l:=hid (m.out.trans (f.mono m.out.size));clear f;go_wp2;go_ret;rw[g.out];exact⟨rfl,l.out⟩
   |true=>
    have a:=hin;unfold indB at a;rw[Bool.and_eq_true]at a;have hr0:0<=root:=by have:=a.1;unfold inR at this;simp at this;exact this.1
    obtain⟨r,rfl⟩:∃r:Nat,root=(r:Int):=⟨root.toNat,by omega⟩
    have:=zmg T hT sclr A c r vs is (is.map Gr.Ni.nd) rfl (by simp;omega) (by simp;omega) hks hin hsc w hTw h;rw[List.length_map]at this;have e:checkI sclr is (r:Int)=checkN sclr (is.map Gr.Ni.nd) r:=by
     unfold checkI;rw[if_neg h1,if_neg (by rw[hin];simp[h2]),Int.toNat_natCast]
    rw[e];exact this
theorem ziz {w:World} {g:Nat} {t:TypeId} {cs:Array Value} (h:w.heap.size=g):Blk (w.alloc (.cells cs t)) g t cs:=by subst h;exact Blk.new _ _ _
theorem zlk (s:Gr.Str) (hl:s.length<=1073741823) (w:World):Calls prog 54 #[.string ⟨s.toArray⟩] w (RPost (rdT s) w):=by
 go_enter func54,ntmps54;go_upto_region 4 with fail;obtain⟨c,b⟩:=ex (((((w.alloc (.cells #[.string ⟨s.toArray⟩] 9)).alloc (.cells #[.int .i64 0,.int .i64 0,.int .i64 0,.int .i64 0,.int .i64 0,.int .i64 0,.int .i64 0,.int .i64 0,.int .i64 0,.int .i64 0,.int .u8 0] 94)).alloc (.cells #[.int .i64 0,.int .i64 0,.int .i64 0,.int .i64 0,.int .i64 0,.int .i64 0,.int .i64 0,.int .i64 0,.int .i64 0,.int .i64 0,.int .u8 0] 94)).alloc (.cells #[.int .i64 0] 3)).alloc (.cells #[.func (.func 81) #[] #[.pointer (some ⟨w.heap.size+1+1+1,0,none⟩),.pointer (some ⟨w.heap.size,0,none⟩)]] 124))
 have h:Blk c (w.heap.size) 9 #[.string ⟨s.toArray⟩]:=by rw[<-b];exact((((ziz (by simp)).alloc _).alloc _).alloc _).alloc _
 have i:Blk c (w.heap.size+1) 94 #[.int .i64 0,.int .i64 0,.int .i64 0,.int .i64 0,.int .i64 0,.int .i64 0,.int .i64 0,.int .i64 0,.int .i64 0,.int .i64 0,.int .u8 0]:=by rw[<-b];exact(((ziz (by simp)).alloc _).alloc _).alloc _
 have d:Blk c (w.heap.size+1+1) 94 #[.int .i64 0,.int .i64 0,.int .i64 0,.int .i64 0,.int .i64 0,.int .i64 0,.int .i64 0,.int .i64 0,.int .i64 0,.int .i64 0,.int .u8 0]:=by rw[<-b];exact((ziz (by simp)).alloc _).alloc _
 have e:Blk c (w.heap.size+1+1+1) 3 #[.int .i64 0]:=by rw[<-b];exact(ziz (by simp)).alloc _
 have f:Blk c (w.heap.size+1+1+1+1) 124 #[.func (.func 81) #[] #[.pointer (some ⟨w.heap.size+1+1+1,0,none⟩),.pointer (some ⟨w.heap.size,0,none⟩)]]:=by rw[<-b];exact ziz (by simp)
 have g:Below w.heap.size w c:=by rw[<-b];exact(((((Below.refl _ _).alloc (Nat.le_refl _) _).alloc (by simp) _).alloc (by simp;omega) _).alloc (by simp;omega) _).alloc (by simp;omega) _
 have j:Hid (RMem s w (w.heap.size) (w.heap.size+1) (w.heap.size+1+1) (w.heap.size+1+1+1) (w.heap.size+1+1+1+1) 0 (fun _=>0) 0 0 0 c):=Lib.hid ⟨g,by omega,by omega,by omega,by omega,h,i,d,e,f⟩;(try rw[b]);clear b h i d e f g;go_cut [7] (fun s7 k=>s7=.func (.func 82) #[] #[.pointer (some ⟨w.heap.size+1+1+1,0,none⟩),.pointer (some ⟨w.heap.size,0,none⟩),.pointer (some ⟨w.heap.size+1+1+1+1,0,none⟩)]/\k=c)
 case first=>
  go_wp2;go_meet;exact⟨rfl,rfl⟩
 case rest=>
 obtain⟨rfl,rfl⟩:=hcut;refine(‹∀(a:Act) (w_1:World),Code.wp prog _ _ a w_1->_›) _ _ ?_;exact zwq s hl w _ _ _ _ _ _ (rdT s) j (Lib.hid rfl)
theorem zwx {s:Gr.Str} {a:Nat} {z:Gr.Zn} (h:zoneAt s a=some z):(z.z=90/\z.h=0/\z.m=0)\/z.z=43\/z.z=45:=by
 unfold zoneAt at h;split at h
 .grind
 .split at h
  .split at h
   .rename_i hb;injection h with h
    subst h;right;simp only[Bool.and_eq_true,Bool.or_eq_true]at hb;show s.getD a 0=43\/s.getD a 0=45;rcases hb.1 with h1|h1
    .unfold isAt at h1;have:=eq_of_beq h1;left;simp[List.getD_eq_getElem?_getD,this]
    .unfold isAt at h1;have:=eq_of_beq h1;right;simp[List.getD_eq_getElem?_getD,this]
   .cases h
  .cases h
theorem mo_z {s:Gr.Str} {x:Gr.Mo} (h:Gr.rd s=some x):(x.z=0\/(x.z=90/\x.zh=0/\x.zm=0)\/x.z=43\/x.z=45)/\(x.time=false->x.nanos=0):=by
 unfold Gr.rd at h;split at h
 .grind
 .split at h
  .grind
  .split at h
   .split at h
    .cases h
    .split at h
     .grind
     .split at h
      .rename_i z hz;split at h
       .injection h with h;subst h;exact⟨.inr (zwx hz),fun e=>by cases e⟩
       .cases h
      .cases h
   .cases h
theorem zym {x:Gr.Mo} (h:MoOk x):decide (((moSh x:Nat):Int)=2)=!x.date:=by
 unfold moSh;rcases h.sh with⟨b,a⟩|⟨b,a,_⟩|⟨b,a,_⟩<;>rw[b,a]<;>decide
theorem zq4 {x:Gr.Mo} (h:MoOk x):prngB ((moSh x:Nat):Int) x.y x.m x.d x.h x.mi x.c x.zh x.zm=okR x:=by
 unfold prngB okR;rw[zym h]
theorem psecs {x:Gr.Mo} (hz:(x.z=90/\x.zh=0/\x.zm=0)\/x.z=43\/x.z=45):
 (if((x.z.toNat:Nat):Int)=43 then Cal.num x.y x.m x.d*86400+(x.h:Int)*3600+(x.mi:Int)*60+(x.c:Int)-((x.zh:Int)*3600+(x.zm:Int)*60)else Cal.num x.y x.m x.d*86400+(x.h:Int)*3600+(x.mi:Int)*60+(x.c:Int)+((x.zh:Int)*3600+(x.zm:Int)*60))=secs x:=by
 unfold secs offS;rcases hz with⟨h,h1,h2⟩|h|h
 .omega
 .rw[h,if_pos (by decide),if_neg (by decide)];omega
 .rw[h,if_neg (by decide),if_pos rfl];omega
theorem u8_z {z:UInt8} (h:z≠0):((z.toNat:Nat):Int)≠0:=by
 intro e;apply h;apply UInt8.toNat_inj.1;simpa using e
theorem zi3 {s:Gr.Str} (hl:s.length<=1073741823) (h:Gr.rd s=none) (w:World):Calls Tryz.prog 54 #[.string ⟨s.toArray⟩] w fun e w'=>Below w.heap.size w w'/\∃(sh y m d h mi c zh zm n z:Nat),e=.returned (.tuple #[.agg #[.int .i64 (sh:Int),.int .i64 (y:Int),.int .i64 (m:Int),.int .i64 (d:Int),.int .i64 (h:Int),.int .i64 (mi:Int),.int .i64 (c:Int),.int .i64 (zh:Int),.int .i64 (zm:Int),.int .i64 (n:Int),.int .u8 (z:Int)],.bool false]):=by
 refine(zlk s hl w).mono ?_;rintro e w' ⟨a,sh,f,g,z,b,_⟩;refine⟨a,sh,f 0,f 1,f 2,f 3,f 4,f 5,f 6,f 7,g,z,?_⟩;rw[b];unfold rdT;rw[h];rfl
theorem zfq {s:Gr.Str} {x:Gr.Mo} (hl:s.length<=1073741823) (h:Gr.rd s=some x) (w:World):Calls Tryz.prog 54 #[.string ⟨s.toArray⟩] w fun e w'=>e=.returned (.tuple #[.agg #[.int .i64 ((moSh x:Nat):Int),.int .i64 (x.y:Int),.int .i64 (x.m:Int),.int .i64 (x.d:Int),.int .i64 (x.h:Int),.int .i64 (x.mi:Int),.int .i64 (x.c:Int),.int .i64 (x.zh:Int),.int .i64 (x.zm:Int),.int .i64 (x.nanos:Int),.int .u8 ((x.z.toNat:Nat):Int)],.bool true])/\Below w.heap.size w w':=by
 refine(zlk s hl w).mono ?_;rintro e w' ⟨b,sh,f,nn,z,j,g⟩;refine⟨?_,b⟩;have a:rdT s=some (moC x):=by unfold rdT;rw[h];rfl
 have i:=g _ a;rw[j,a,<-i];rfl
theorem zi4 (s:Gr.Str) (hl:s.length<=1073741823) (w:World) (hT:UT w):Calls prog 39 #[.string ⟨s.toArray⟩] w (zde (insP s) w):=by
 have HT:=hid hT;clear hT;obtain⟨r,C⟩:=ex (insP s)
 have Z:=hid C;rw[C];clear C;have K:Hid (insP s=match Gr.rd s with|none=>([],3)|some x=>if x.z=0 then([],3)else if okR x=false then([],13)else osP (secs x) x.nanos):=hid rfl;cases hrd:Gr.rd s with
 |none=>
  have J:Hid (r=([],3)):=hid (by rw[<-Z.out,K.out,hrd]);have A:=hid (fun W=>zi3 hl hrd W);clear hrd;go_enter func39,ntmps39;go_wp2_with fail;refine(A.out _).mono ?_;rintro e P ⟨f,N,y,m,d,h,mi,c,zh,zm,n,z,rfl⟩;have H:=hid f;clear f;go_wp2;go_ret2;rw[J.out];exact⟨rfl,H.out.alloc H.out.size _⟩
 |some x=>
  have g:=zq1 hrd;have B:=mo_z hrd;have M:=hid (fun W=>zfq hl hrd W);have I:=zq4 g;have F:=hid (fun W=>zfo ((moSh x:Nat):Int) x.y x.m x.d x.h x.mi x.c x.zh x.zm (x.nanos:Int) ((x.z.toNat:Nat):Int) W);rw[I]at F;obtain⟨N,u⟩:=ex (moSh x)
  obtain⟨E,l⟩:∃E:Int,((x.z.toNat:Nat):Int)=E:=⟨_,rfl⟩
  have t:=fun(hv:Cal.vld x.y x.m x.d=true) (h1:(x.z=90/\x.zh=0/\x.zm=0)\/x.z=43\/x.z=45) W=>zi0 ((moSh x:Nat):Int) (x.y:Int) (x.m:Int) (x.d:Int) (x.h:Int) (x.mi:Int) (x.c:Int) (x.zh:Int) (x.zm:Int) (x.nanos:Int) ((x.z.toNat:Nat):Int) hv (by omega) (by have:=g.h;omega) (by omega) (by have:=g.mi;omega) (by omega) (by have:=g.c;omega) (by omega) (by have:=g.zh;omega) (by omega) (by have:=g.zm;omega) W
  have A:=M;have G:=F;rw[u,l]at A G;clear M F;have HZZ:=hid l;have HSH:=hid u;have HOK:=hid g;have HMZ:=hid B;by_cases hz:x.z=0
  .have J:Hid (r=([],3)):=hid (by rw[<-Z.out,K.out,hrd];simp only;rw[if_pos hz]);obtain rfl:0=E:=by rw[<-l,hz];rfl
   have hz0b:((0:Int)==0)=true:=rfl;clear hrd g B I u l hz t;go_enter func39,ntmps39;go_wp2_with fail;refine(A.out _).mono ?_;rintro e P ⟨rfl,f⟩;have H:=hid f;clear f;go_wp2;go_ret2;rw[J.out];exact⟨rfl,H.out.alloc H.out.size _⟩
  .have U:=u8_z hz;rw[l]at U;have hznb:(E==0)=false:=by simpa using U
   have L:=B.1.resolve_left hz;have T:x.date=true/\x.time=true:=by
    rcases g.sh with h|⟨_,_,h⟩|⟨_,_,h⟩
    .exact h
    .exact absurd h hz
    .exact absurd h hz
   cases C:okR x with
   |false=>
    have J:Hid (r=([],13)):=hid (by rw[<-Z.out,K.out,hrd];simp only;rw[if_neg hz,if_pos C]);rw[C]at G;clear hrd g B I u l hz C t T L;go_enter func39,ntmps39;go_wp2_with fail;refine(A.out _).mono ?_;rintro e P ⟨rfl,f⟩;go_upto_region 2 with fail;obtain⟨o,p⟩:=ex P.heap.size
    obtain⟨v,j⟩:∃v,v=P.alloc (.cells #[.int .i64 (N:Int),.int .i64 (x.y:Int),.int .i64 (x.m:Int),.int .i64 (x.d:Int),.int .i64 (x.h:Int),.int .i64 (x.mi:Int),.int .i64 (x.c:Int),.int .i64 (x.zh:Int),.int .i64 (x.zm:Int),.int .i64 (x.nanos:Int),.int .u8 E] 94):=⟨_,rfl⟩
    have i:Hid (Blk v o 94 #[.int .i64 (N:Int),.int .i64 (x.y:Int),.int .i64 (x.m:Int),.int .i64 (x.d:Int),.int .i64 (x.h:Int),.int .i64 (x.mi:Int),.int .i64 (x.c:Int),.int .i64 (x.zh:Int),.int .i64 (x.zm:Int),.int .i64 (x.nanos:Int),.int .u8 E]/\Below w.heap.size w v/\UT v):=hid (by
     have X:Below w.heap.size w v:=by rw[j];exact f.alloc f.size _
     exact⟨by rw[j,<-p];exact Blk.new _ _ _,X,UT.stays _ _ HT.out X⟩)
    (try rw[<-j]);(try rw[p]);clear j p f;obtain⟨q0,q1,q2,q3,q4,q5,q6,q7,q8,q9,Q⟩:=zaf i.out.1;go_wp2_with fail;refine(G.out _).mono ?_;rintro e b ⟨rfl,k⟩;have a:Hid (Blk b o 94 #[.int .i64 (N:Int),.int .i64 (x.y:Int),.int .i64 (x.m:Int),.int .i64 (x.d:Int),.int .i64 (x.h:Int),.int .i64 (x.mi:Int),.int .i64 (x.c:Int),.int .i64 (x.zh:Int),.int .i64 (x.zm:Int),.int .i64 (x.nanos:Int),.int .u8 E]/\Below w.heap.size w b/\UT b):=hid ⟨i.out.1.below k i.out.1.lt,i.out.2.1.trans (k.mono i.out.2.1.size),UT.stays _ _ i.out.2.2 k⟩;clear k q0 q1 q2 q3 q4 q5 q6 q7 q8 q9 Q;go_wp2;go_ret2;rw[J.out];exact⟨rfl,a.out.2.1⟩
   |true=>
    have J:Hid (r=osP (secs x) x.nanos):=hid (by rw[<-Z.out,K.out,hrd];simp only;rw[if_neg hz,if_neg (by rw[C];decide)]);rw[C]at G;obtain⟨hv,V,Y,_,_⟩:=zq3 g C T.1;have S:=hid (t hv L);rw[psecs L,u,l]at S;obtain⟨q,hq⟩:=ex (secs x)
    rw[hq]at S J V Y;have D:=hid (fun W hW=>zhk q x.nanos (x.nanos:Int) rfl g.nanos (by omega) (by omega) W hW);unfold zde at D ⊢;obtain⟨⟨R1,R2⟩,hR⟩:∃R,osP q x.nanos=R:=⟨_,rfl⟩
    rw[hR]at D J;simp only at D;obtain⟨Ri,O⟩:∃Ri:Int,(R2:Int)=Ri:=⟨_,rfl⟩
    rw[O]at D;have ac:=hid O;clear hrd g B I u l hz C t T L hv V Y hq hR O;go_enter func39,ntmps39;go_wp2_with fail;refine(A.out _).mono ?_;rintro e P ⟨rfl,f⟩;go_upto_region 2 with fail;obtain⟨o,p⟩:=ex P.heap.size
    obtain⟨v,j⟩:∃v,v=P.alloc (.cells #[.int .i64 (N:Int),.int .i64 (x.y:Int),.int .i64 (x.m:Int),.int .i64 (x.d:Int),.int .i64 (x.h:Int),.int .i64 (x.mi:Int),.int .i64 (x.c:Int),.int .i64 (x.zh:Int),.int .i64 (x.zm:Int),.int .i64 (x.nanos:Int),.int .u8 E] 94):=⟨_,rfl⟩
    have i:Hid (Blk v o 94 #[.int .i64 (N:Int),.int .i64 (x.y:Int),.int .i64 (x.m:Int),.int .i64 (x.d:Int),.int .i64 (x.h:Int),.int .i64 (x.mi:Int),.int .i64 (x.c:Int),.int .i64 (x.zh:Int),.int .i64 (x.zm:Int),.int .i64 (x.nanos:Int),.int .u8 E]/\Below w.heap.size w v/\UT v):=hid (by
     have X:Below w.heap.size w v:=by rw[j];exact f.alloc f.size _
     exact⟨by rw[j,<-p];exact Blk.new _ _ _,X,UT.stays _ _ HT.out X⟩)
    (try rw[<-j]);(try rw[p]);clear j p f;obtain⟨q0,q1,q2,q3,q4,q5,q6,q7,q8,q9,Q⟩:=zaf i.out.1;go_wp2_with fail;refine(G.out _).mono ?_;rintro e b ⟨rfl,k⟩;have a:Hid (Blk b o 94 #[.int .i64 (N:Int),.int .i64 (x.y:Int),.int .i64 (x.m:Int),.int .i64 (x.d:Int),.int .i64 (x.h:Int),.int .i64 (x.mi:Int),.int .i64 (x.c:Int),.int .i64 (x.zh:Int),.int .i64 (x.zm:Int),.int .i64 (x.nanos:Int),.int .u8 E]/\Below w.heap.size w b/\UT b):=hid ⟨i.out.1.below k i.out.1.lt,i.out.2.1.trans (k.mono i.out.2.1.size),UT.stays _ _ i.out.2.2 k⟩;clear k q0 q1 q2 q3 q4 q5 q6 q7 q8 q9 Q;go_upto_region 6 with fail;have p0:∀W:WB b.heap.size b,W.w.cell? ⟨o,0,none⟩=some (.int .i64 (N:Int)):=fun W=>(a.out.1.below W.h a.out.1.lt).cell 0
    have p1:∀W:WB b.heap.size b,W.w.cell? ⟨o,1,none⟩=some (.int .i64 (x.y:Int)):=fun W=>(a.out.1.below W.h a.out.1.lt).cell 1
    have p2:∀W:WB b.heap.size b,W.w.cell? ⟨o,2,none⟩=some (.int .i64 (x.m:Int)):=fun W=>(a.out.1.below W.h a.out.1.lt).cell 2
    have p3:∀W:WB b.heap.size b,W.w.cell? ⟨o,3,none⟩=some (.int .i64 (x.d:Int)):=fun W=>(a.out.1.below W.h a.out.1.lt).cell 3
    have p4:∀W:WB b.heap.size b,W.w.cell? ⟨o,4,none⟩=some (.int .i64 (x.h:Int)):=fun W=>(a.out.1.below W.h a.out.1.lt).cell 4
    have p5:∀W:WB b.heap.size b,W.w.cell? ⟨o,5,none⟩=some (.int .i64 (x.mi:Int)):=fun W=>(a.out.1.below W.h a.out.1.lt).cell 5
    have p6:∀W:WB b.heap.size b,W.w.cell? ⟨o,6,none⟩=some (.int .i64 (x.c:Int)):=fun W=>(a.out.1.below W.h a.out.1.lt).cell 6
    have p7:∀W:WB b.heap.size b,W.w.cell? ⟨o,7,none⟩=some (.int .i64 (x.zh:Int)):=fun W=>(a.out.1.below W.h a.out.1.lt).cell 7
    have p8:∀W:WB b.heap.size b,W.w.cell? ⟨o,8,none⟩=some (.int .i64 (x.zm:Int)):=fun W=>(a.out.1.below W.h a.out.1.lt).cell 8
    have p9:∀W:WB b.heap.size b,W.w.cell? ⟨o,9,none⟩=some (.int .i64 (x.nanos:Int)):=fun W=>(a.out.1.below W.h a.out.1.lt).cell 9
    have aa:∀W:WB b.heap.size b,W.w.cell? ⟨o,10,none⟩=some (.int .u8 E):=fun W=>(a.out.1.below W.h a.out.1.lt).cell 10
    have ab:Hid (∀W:WB b.heap.size b,UT W.w):=hid (fun W=>UT.stays _ _ a.out.2.2 W.h);refine zaa b.heap.size b (by kernel_rfl) (by kernel_rfl) (Below.refl _ _) ?_
    iterate 9 (try go_big_quiet_step ((first| (with_reducible refine Calls.grow ((S.out _).mono (fun _ _ ⟨e1,e2⟩=>⟨e1,(WB.h _).trans (e2.mono (WB.h _).size)⟩)))| (with_reducible refine Calls.grow ((D.out _ (ab.out _)).mono (fun _ _ ⟨e1,e2⟩=>⟨e1,(WB.h _).trans (e2.mono (WB.h _).size)⟩))))))
    refine wpQuiet_nil ?_;rintro _ ⟨wz,rfl⟩;clear p0 p1 p2 p3 p4 p5 p6 p7 p8 p9 aa;go_wp2;go_ret2;rw[J.out];refine⟨?_,a.out.2.1.trans (wz.h.mono a.out.2.1.size)⟩;show _=Ending.returned (.tuple #[.string ⟨R1.toArray⟩,.int .i64 (R2:Int)]);rw[ac.out];rfl
end Go.Proofs.YtpjmhafmeieloaaGreatDoor

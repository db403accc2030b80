import Derived.Test.YtpjmhafmeieloabGreatDoorZ12
namespace Go.Proofs.YtpjmhafmeieloabGreatDoor
open _root_.Go.Proofs.Tryz
open _root_.Go.Lib (hid)
set_option maxRecDepth 100000
set_option maxHeartbeats 16000000
open Go.RowKit
theorem zi5 (A A2:Option Addr) (c d n:Nat) (l:List Int) (hn:Hid (n=l.length)) (hl:n<=9223372036854775807) (w:World) (h:RowAt intI w w.heap.size A l) (h2:RowAt intI w w.heap.size A2 l):
 Calls prog 35 #[.slice A n c,.slice A2 n d] w fun e w'=>e=.returned (.bool true)/\Below w.heap.size w w':=by
 have H:=hid (And.intro h h2);clear h h2;go_enter func35,ntmps35;go_wp2_with fail;go_loopw [5] (fun s5 wr=>∃k:Nat,k<=n/\s5=.int .i64 (k:Int)/\Hid (Below w.heap.size w wr)) (fun s5 _=>n-(intOf s5).toNat)
 case atStart=>exact⟨0,Nat.zero_le _,rfl,hid (Below.refl _ _)⟩
 case round=>
  obtain⟨k,hk,rfl,b⟩:=hrel;by_cases hlt:k<n
  .have a:(k:Int)<(n:Int):=by omega
   obtain⟨ad,rfl,_,i⟩:=ze3 (H.out.1.below b.out) (show k<l.length by have:=hn.out;omega);obtain⟨ad2,rfl,_,g⟩:=ze3 (H.out.2.below b.out) (show k<l.length by have:=hn.out;omega);obtain⟨p,f⟩:∃p,l[k]'(by have:=hn.out;omega)=p:=⟨_,rfl⟩
   rw[f]at i g;clear f;go_wp2_with fail;go_quiet (fail);go_wp2;go_roundw
   case rel=>exact⟨k+1,by omega,by go_num,hid (below_drewN b.out _)⟩
   case measure=>simp[intOf];omega
  .have a:¬(k:Int)<(n:Int):=by omega
   go_wp2;go_ret;exact⟨rfl,b.out⟩
def Sz (is:List Gr.Ni):Prop:=is.length<=9223372036854775807/\∀x∈is,x.text.length<=9223372036854775807/\x.keys.length<=9223372036854775807/\x.items.length<=9223372036854775807
theorem znk (A A2:Option Addr) (c c2:Nat) (root:Int) (vs vs2:List NV) (is:List Gr.Ni) (hz:Sz is) (w:World) (h:IAt w w.heap.size A vs is) (h2:IAt w w.heap.size A2 vs2 is):
 Calls prog 21 #[.agg #[.slice A is.length c,.int .i64 root],.agg #[.slice A2 is.length c2,.int .i64 root]] w fun e w'=>e=.returned (.bool true)/\Below w.heap.size w w':=by
 have H:=hid (And.intro h h2);have HZ:=hid hz;have hl:=hz.1;obtain⟨N,hN⟩:=ex is.length
 have HN:=hid hN;rw[hN]at hl ⊢;clear h h2 hz hN;obtain⟨l,n⟩:=ex w.heap.size
 have ag:=hid n;go_enter func21,ntmps21;go_upto_region 1 with fail;obtain⟨t,J⟩:=ex ((w.alloc (.cells #[.slice A N c,.int .i64 root] 27)).alloc (.cells #[.slice A2 N c2,.int .i64 root] 27))
 have i:Hid (Blk t l 27 #[.slice A N c,.int .i64 root]/\Blk t (l+1) 27 #[.slice A2 N c2,.int .i64 root]/\Below l w t):=hid (by
  rw[<-J,<-n];refine⟨(Blk.new _ _ _).alloc _,?_,((Below.refl _ _).alloc (Nat.le_refl _) _).alloc (by simp) _⟩;have:=Blk.new (w.alloc (.cells #[.slice A N c,.int .i64 root] 27)) 27 #[.slice A2 N c2,.int .i64 root];rw[World.size_alloc]at this;exact this)
 have Z:Hid (IAt t l A vs is/\IAt t l A2 vs2 is):=hid (by rw[<-n];exact⟨H.out.1.below (by have:=i.out.2.2;rwa[<-n]at this),H.out.2.below (by have:=i.out.2.2;rwa[<-n]at this)⟩);(try rw[J]);(try rw[n]);clear J n H;obtain⟨a0,a1⟩:=cells2 i.out.1;obtain⟨b0,b1⟩:=cells2 i.out.2.1;go_wp2_with fail;clear a0 a1 b0 b1;have m:Hid (l+1<t.heap.size):=hid i.out.2.1.lt;go_loopw [5] (fun s5 wr=>∃k:Nat,k<=N/\s5=.int .i64 (k:Int)/\Hid (Below t.heap.size t wr)) (fun s5 _=>N-(intOf s5).toNat)
 case atStart=>exact⟨0,Nat.zero_le _,rfl,hid (Below.refl _ _)⟩
 case round=>
  obtain⟨k,hk,rfl,M⟩:=hrel;obtain⟨f,af⟩:∃f,f=wr:=⟨_,rfl⟩
  subst af;have ca:=i.out.1.below M.out i.out.1.lt;have cb:=i.out.2.1.below M.out i.out.2.1.lt;have a0:f.cell? ⟨l,0,none⟩=some (.slice A N c):=ca.cell 0;have b0:f.cell? ⟨l+1,0,none⟩=some (.slice A2 N c2):=cb.cell 0;have j:Hid (t.heap.size<=f.heap.size):=hid M.out.size;clear ca cb;by_cases hlt:k<N
  .have P:(k:Int)<(N:Int):=by omega
   have y:k<is.length:=by rw[HN.out];exact hlt
   have lq:=M.out.mono (show l<=t.heap.size by have:=m.out;omega);obtain⟨x,⟨O,kn,X⟩,⟨F,qn,L⟩,rfl,V,c0,c1,Y,c3,c4,r1,S,r2,U⟩:=(Z.out.1.below lq).node y;obtain⟨g,⟨r,d,u⟩,⟨o,b,s⟩,rfl,I,d0,d1,d2,d3,d4,s1,m1,s2,m2⟩:=(Z.out.2.below lq).node y;obtain⟨D,R⟩:=ex (is[k].kind)
   obtain⟨v,W⟩:=ex (is[k].text)
   obtain⟨B,T⟩:=ex (is[k].ord)
   obtain⟨K,hK⟩:=ex (is[k].keys)
   obtain⟨Q,hQ⟩:=ex (is[k].items)
   have z:=HZ.out.2 _ (List.getElem_mem y);simp only[R,W,T,hK,hQ]at c0 c1 Y d0 d1 d2 r1 S r2 U s1 m1 s2 m2 z;simp only at c3 c4 d3 d4;obtain rfl:d=kn:=m1.trans S.symm;obtain rfl:b=qn:=m2.trans U.symm;have q:Hid (RowAt intI f l O K/\RowAt intI f l F Q/\RowAt intI f l r K/\RowAt intI f l o Q):=hid ⟨r1,r2,s1,s2⟩;have E:Hid (d=K.length/\b=Q.length):=hid ⟨S,U⟩;have zk:d<=9223372036854775807:=by rw[S];exact z.2.1
   have zq:b<=9223372036854775807:=by rw[U];exact z.2.2
   clear R W T hK hQ r1 S r2 U s1 m1 s2 m2 z lq y V I;go_wp2_with fail;go_cut [6,7] (fun s6 s7 wx=>∃g6 g7,s6=.pointer (some ⟨g6,0,none⟩)/\s7=.pointer (some ⟨g7,0,none⟩)/\Hid (Blk wx g6 40 #[.int .i64 D,.string ⟨v.toArray⟩,.bool B,.slice O d X,.slice F b L]/\Blk wx g7 40 #[.int .i64 D,.string ⟨v.toArray⟩,.bool B,.slice r d u,.slice o b s]/\Below f.heap.size f wx))
   case first=>
    go_region_held3 (fun w'=>w'.cell? ⟨l,0,none⟩=some (.slice (some x) N c)/\w'.cell? ⟨l+1,0,none⟩=some (.slice (some g) N c2)/\
     w'.cell? (x.add (k*5))=some (.int .i64 D)/\
     w'.cell? {block:=(x.add (k*5)).block,off:=(x.add (k*5)).off+1}=some (.string ⟨v.toArray⟩)/\
     w'.cell? {block:=(x.add (k*5)).block,off:=(x.add (k*5)).off+2}=some (.bool B)/\
     w'.cell? {block:=(x.add (k*5)).block,off:=(x.add (k*5)).off+3}=some (.slice O d X)/\
     w'.cell? {block:=(x.add (k*5)).block,off:=(x.add (k*5)).off+4}=some (.slice F b L)/\
     w'.cell? (g.add (k*5))=some (.int .i64 D)/\
     w'.cell? {block:=(g.add (k*5)).block,off:=(g.add (k*5)).off+1}=some (.string ⟨v.toArray⟩)/\
     w'.cell? {block:=(g.add (k*5)).block,off:=(g.add (k*5)).off+2}=some (.bool B)/\
     w'.cell? {block:=(g.add (k*5)).block,off:=(g.add (k*5)).off+3}=some (.slice r d u)/\
     w'.cell? {block:=(g.add (k*5)).block,off:=(g.add (k*5)).off+4}=some (.slice o b s))
      (first|go_keep| (simp[go_sem])) (fail)
    all_goals
     go_wp2;go_meet
    .refine⟨f.heap.size,f.heap.size+1,rfl,rfl,hid ⟨(Blk.new _ _ _).alloc _,?_,((((Below.refl f.heap.size f).alloc (Nat.le_refl _) _).alloc (by simp) _).drew)⟩⟩;have:=Blk.new (f.alloc (.cells #[.int .i64 D,.string ⟨v.toArray⟩,.bool B,.slice O d X,.slice F b L] 40)) 40 #[.int .i64 D,.string ⟨v.toArray⟩,.bool B,.slice r d u,.slice o b s];rw[World.size_alloc]at this;exact this
    .refine⟨f.heap.size+1,f.heap.size,rfl,rfl,hid ⟨?_,(Blk.new _ _ _).alloc _,((((Below.refl f.heap.size f).alloc (Nat.le_refl _) _).alloc (by simp) _).drew)⟩⟩;have:=Blk.new (f.alloc (.cells #[.int .i64 D,.string ⟨v.toArray⟩,.bool B,.slice r d u,.slice o b s] 40)) 40 #[.int .i64 D,.string ⟨v.toArray⟩,.bool B,.slice O d X,.slice F b L];rw[World.size_alloc]at this;exact this
   case rest=>
    obtain⟨g6,g7,rfl,rfl,a⟩:=hcut;clear c0 c1 Y c3 c4 d0 d1 d2 d3 d4 a0 b0;obtain⟨e0,e1,e2,e3⟩:=cells4 a.out.1;obtain⟨f0,f1,f2,f3⟩:=cells4 a.out.2.1;have hts:((⟨v.toArray⟩:ByteArray)==⟨v.toArray⟩)=true:=by rw[str_eq];simp
    have G:Hid (Below l f wc):=hid (a.out.2.2.mono (by have:=m.out;have:=j.out;omega));have ah:=hid (zi5 O r X u d K (hid E.out.1) zk wc ((q.out.1.below G.out).more (by have:=m.out;have:=j.out;have:=a.out.2.2.size;omega)) ((q.out.2.2.1.below G.out).more (by have:=m.out;have:=j.out;have:=a.out.2.2.size;omega)));go_wp2_with fail;refine ah.out.mono ?_;rintro _ w5 ⟨rfl,p⟩;have ab:=hid p;have x6:=a.out.1.below p a.out.1.lt;have x7:=a.out.2.1.below p a.out.2.1.lt;have e4:w5.cell? ⟨g6,4,none⟩=some (.slice F b L):=x6.cell 4;have f4:w5.cell? ⟨g7,4,none⟩=some (.slice o b s):=x7.cell 4;have C:Hid (Below l f w5):=hid (G.out.trans (p.mono (by have:=m.out;have:=j.out;have:=a.out.2.2.size;omega)));have ae:=hid (zi5 F o L s b Q (hid E.out.2) zq w5 ((q.out.2.1.below C.out).more (by have:=m.out;have:=j.out;have:=a.out.2.2.size;have:=p.size;omega)) ((q.out.2.2.2.below C.out).more (by have:=m.out;have:=j.out;have:=a.out.2.2.size;have:=p.size;omega)));clear p x6 x7 e0 e1 e2 e3 f0 f1 f2 f3;go_wp2_with fail;refine ae.out.mono ?_;rintro _ w6 ⟨rfl,aa⟩;have ac:Hid (Below t.heap.size t w6):=hid (M.out.trans ((a.out.2.2.mono j.out).trans ((ab.out.mono (by have:=j.out;have:=a.out.2.2.size;omega)).trans (aa.mono (by have:=j.out;have:=a.out.2.2.size;have:=ab.out.size;omega)))));clear aa e4 f4;go_wp2;go_roundw
    case rel=>exact⟨k+1,by omega,by go_num,ac⟩
    case measure=>simp[intOf];omega
  .have P:¬(k:Int)<(N:Int):=by omega
   go_wp2;go_ret;exact⟨rfl,by rw[ag.out];exact i.out.2.2.trans (M.out.mono (by have:=m.out;omega))⟩
open Gr
theorem zil (s:Gr.Str) (hl:s.length<=1073741823) (w:World) (hT:UT w):Calls prog 40 #[.string ⟨s.toArray⟩] w (zc7 (insP s) w):=by
 have HT:=hid hT;clear hT;obtain⟨r,F⟩:=ex (insP s)
 have Z:=hid F;rw[F];clear F;have L:Hid (insP s=match Gr.rd s with|none=>([],3)|some x=>if x.z=0 then([],3)else if okR x=false then([],13)else osP (secs x) x.nanos):=hid rfl;cases hrd:Gr.rd s with
 |none=>
  have I:Hid (r=([],3)):=hid (by rw[<-Z.out,L.out,hrd]);have A:=hid (fun W=>zik hl hrd W);clear hrd;go_enter func40,ntmps40;go_wp2_with fail;refine(A.out _).mono ?_;rintro e S ⟨g,N,y,m,d,h,mi,c,zh,zm,n,z,rfl⟩;have G:=hid g;clear g;go_wp2;go_ret2;rw[I.out];exact⟨rfl,G.out.alloc G.out.size _⟩
 |some x=>
  have i:=zp4 hrd;have B:=mo_z hrd;have M:=hid (fun W=>zfc hl hrd W);have K:=zp7 i;have D:=hid (fun W=>zfa ((moSh x:Nat):Int) x.y x.m x.d x.h x.mi x.c x.zh x.zm (x.nanos:Int) ((x.z.toNat:Nat):Int) W);rw[K]at D;obtain⟨N,v⟩:=ex (moSh x)
  obtain⟨E,l⟩:∃E:Int,((x.z.toNat:Nat):Int)=E:=⟨_,rfl⟩
  have t:=fun(hv:Cal.vld x.y x.m x.d=true) (h1:(x.z=90/\x.zh=0/\x.zm=0)\/x.z=43\/x.z=45) W=>zih ((moSh x:Nat):Int) (x.y:Int) (x.m:Int) (x.d:Int) (x.h:Int) (x.mi:Int) (x.c:Int) (x.zh:Int) (x.zm:Int) (x.nanos:Int) ((x.z.toNat:Nat):Int) hv (by omega) (by have:=i.h;omega) (by omega) (by have:=i.mi;omega) (by omega) (by have:=i.c;omega) (by omega) (by have:=i.zh;omega) (by omega) (by have:=i.zm;omega) W
  have A:=M;have C:=D;rw[v,l]at A C;clear M D;have HZZ:=hid l;have HSH:=hid v;have HOK:=hid i;have HMZ:=hid B;by_cases hz:x.z=0
  .have I:Hid (r=([],3)):=hid (by rw[<-Z.out,L.out,hrd];simp only;rw[if_pos hz]);obtain rfl:0=E:=by rw[<-l,hz];rfl
   have hz0b:((0:Int)==0)=true:=rfl;clear hrd i B K v l hz t;go_enter func40,ntmps40;go_wp2_with fail;refine(A.out _).mono ?_;rintro e S ⟨rfl,g⟩;have G:=hid g;clear g;go_wp2;go_ret2;rw[I.out];exact⟨rfl,G.out.alloc G.out.size _⟩
  .have Y:=u8_z hz;rw[l]at Y;have hznb:(E==0)=false:=by simpa using Y
   have J:=B.1.resolve_left hz;have P:x.date=true/\x.time=true:=by
    rcases i.sh with h|⟨_,_,h⟩|⟨_,_,h⟩
    .exact h
    .exact absurd h hz
    .exact absurd h hz
   cases F:okR x with
   |false=>
    have I:Hid (r=([],13)):=hid (by rw[<-Z.out,L.out,hrd];simp only;rw[if_neg hz,if_pos F]);rw[F]at C;clear hrd i B K v l hz F t P J;go_enter func40,ntmps40;go_wp2_with fail;refine(A.out _).mono ?_;rintro e S ⟨rfl,g⟩;go_upto_region 2 with fail;obtain⟨o,p⟩:=ex S.heap.size
    obtain⟨u,k⟩:∃u,u=S.alloc (.cells #[.int .i64 (N:Int),.int .i64 (x.y:Int),.int .i64 (x.m:Int),.int .i64 (x.d:Int),.int .i64 (x.h:Int),.int .i64 (x.mi:Int),.int .i64 (x.c:Int),.int .i64 (x.zh:Int),.int .i64 (x.zm:Int),.int .i64 (x.nanos:Int),.int .u8 E] 97):=⟨_,rfl⟩
    have f:Hid (Blk u o 97 #[.int .i64 (N:Int),.int .i64 (x.y:Int),.int .i64 (x.m:Int),.int .i64 (x.d:Int),.int .i64 (x.h:Int),.int .i64 (x.mi:Int),.int .i64 (x.c:Int),.int .i64 (x.zh:Int),.int .i64 (x.zm:Int),.int .i64 (x.nanos:Int),.int .u8 E]/\Below w.heap.size w u/\UT u):=hid (by
     have V:Below w.heap.size w u:=by rw[k];exact g.alloc g.size _
     exact⟨by rw[k,<-p];exact Blk.new _ _ _,V,UT.stays _ _ HT.out V⟩)
    (try rw[<-k]);(try rw[p]);clear k p g;obtain⟨q0,q1,q2,q3,q4,q5,q6,q7,q8,q9,O⟩:=zaf f.out.1;go_wp2_with fail;refine(C.out _).mono ?_;rintro e b ⟨rfl,j⟩;have a:Hid (Blk b o 97 #[.int .i64 (N:Int),.int .i64 (x.y:Int),.int .i64 (x.m:Int),.int .i64 (x.d:Int),.int .i64 (x.h:Int),.int .i64 (x.mi:Int),.int .i64 (x.c:Int),.int .i64 (x.zh:Int),.int .i64 (x.zm:Int),.int .i64 (x.nanos:Int),.int .u8 E]/\Below w.heap.size w b/\UT b):=hid ⟨f.out.1.below j f.out.1.lt,f.out.2.1.trans (j.mono f.out.2.1.size),UT.stays _ _ f.out.2.2 j⟩;clear j q0 q1 q2 q3 q4 q5 q6 q7 q8 q9 O;go_wp2;go_ret2;rw[I.out];exact⟨rfl,a.out.2.1⟩
   |true=>
    have I:Hid (r=osP (secs x) x.nanos):=hid (by rw[<-Z.out,L.out,hrd];simp only;rw[if_neg hz,if_neg (by rw[F];decide)]);rw[F]at C;obtain⟨hv,U,X,_,_⟩:=zp6 i F P.1;have T:=hid (t hv J);rw[psecs J,v,l]at T;obtain⟨q,hq⟩:=ex (secs x)
    rw[hq]at T I U X;have H:=hid (fun W hW=>zha q x.nanos (x.nanos:Int) rfl i.nanos (by omega) (by omega) W hW);unfold zc7 at H ⊢;obtain⟨⟨R1,R2⟩,hR⟩:∃R,osP q x.nanos=R:=⟨_,rfl⟩
    rw[hR]at H I;simp only at H;obtain⟨Ri,Q⟩:∃Ri:Int,(R2:Int)=Ri:=⟨_,rfl⟩
    rw[Q]at H;have ac:=hid Q;clear hrd i B K v l hz F t P J hv U X hq hR Q;go_enter func40,ntmps40;go_wp2_with fail;refine(A.out _).mono ?_;rintro e S ⟨rfl,g⟩;go_upto_region 2 with fail;obtain⟨o,p⟩:=ex S.heap.size
    obtain⟨u,k⟩:∃u,u=S.alloc (.cells #[.int .i64 (N:Int),.int .i64 (x.y:Int),.int .i64 (x.m:Int),.int .i64 (x.d:Int),.int .i64 (x.h:Int),.int .i64 (x.mi:Int),.int .i64 (x.c:Int),.int .i64 (x.zh:Int),.int .i64 (x.zm:Int),.int .i64 (x.nanos:Int),.int .u8 E] 97):=⟨_,rfl⟩
    have f:Hid (Blk u o 97 #[.int .i64 (N:Int),.int .i64 (x.y:Int),.int .i64 (x.m:Int),.int .i64 (x.d:Int),.int .i64 (x.h:Int),.int .i64 (x.mi:Int),.int .i64 (x.c:Int),.int .i64 (x.zh:Int),.int .i64 (x.zm:Int),.int .i64 (x.nanos:Int),.int .u8 E]/\Below w.heap.size w u/\UT u):=hid (by
     have V:Below w.heap.size w u:=by rw[k];exact g.alloc g.size _
     exact⟨by rw[k,<-p];exact Blk.new _ _ _,V,UT.stays _ _ HT.out V⟩)
    (try rw[<-k]);(try rw[p]);clear k p g;obtain⟨q0,q1,q2,q3,q4,q5,q6,q7,q8,q9,O⟩:=zaf f.out.1;go_wp2_with fail;refine(C.out _).mono ?_;rintro e b ⟨rfl,j⟩;have a:Hid (Blk b o 97 #[.int .i64 (N:Int),.int .i64 (x.y:Int),.int .i64 (x.m:Int),.int .i64 (x.d:Int),.int .i64 (x.h:Int),.int .i64 (x.mi:Int),.int .i64 (x.c:Int),.int .i64 (x.zh:Int),.int .i64 (x.zm:Int),.int .i64 (x.nanos:Int),.int .u8 E]/\Below w.heap.size w b/\UT b):=hid ⟨f.out.1.below j f.out.1.lt,f.out.2.1.trans (j.mono f.out.2.1.size),UT.stays _ _ f.out.2.2 j⟩;clear j q0 q1 q2 q3 q4 q5 q6 q7 q8 q9 O;go_upto_region 6 with fail;have p0:∀W:WB b.heap.size b,W.w.cell? ⟨o,0,none⟩=some (.int .i64 (N:Int)):=fun W=>(a.out.1.below W.h a.out.1.lt).cell 0
    have p1:∀W:WB b.heap.size b,W.w.cell? ⟨o,1,none⟩=some (.int .i64 (x.y:Int)):=fun W=>(a.out.1.below W.h a.out.1.lt).cell 1
    have p2:∀W:WB b.heap.size b,W.w.cell? ⟨o,2,none⟩=some (.int .i64 (x.m:Int)):=fun W=>(a.out.1.below W.h a.out.1.lt).cell 2
    have p3:∀W:WB b.heap.size b,W.w.cell? ⟨o,3,none⟩=some (.int .i64 (x.d:Int)):=fun W=>(a.out.1.below W.h a.out.1.lt).cell 3
    have p4:∀W:WB b.heap.size b,W.w.cell? ⟨o,4,none⟩=some (.int .i64 (x.h:Int)):=fun W=>(a.out.1.below W.h a.out.1.lt).cell 4
    have p5:∀W:WB b.heap.size b,W.w.cell? ⟨o,5,none⟩=some (.int .i64 (x.mi:Int)):=fun W=>(a.out.1.below W.h a.out.1.lt).cell 5
    have p6:∀W:WB b.heap.size b,W.w.cell? ⟨o,6,none⟩=some (.int .i64 (x.c:Int)):=fun W=>(a.out.1.below W.h a.out.1.lt).cell 6
    have p7:∀W:WB b.heap.size b,W.w.cell? ⟨o,7,none⟩=some (.int .i64 (x.zh:Int)):=fun W=>(a.out.1.below W.h a.out.1.lt).cell 7
    have p8:∀W:WB b.heap.size b,W.w.cell? ⟨o,8,none⟩=some (.int .i64 (x.zm:Int)):=fun W=>(a.out.1.below W.h a.out.1.lt).cell 8
    have p9:∀W:WB b.heap.size b,W.w.cell? ⟨o,9,none⟩=some (.int .i64 (x.nanos:Int)):=fun W=>(a.out.1.below W.h a.out.1.lt).cell 9
    have aa:∀W:WB b.heap.size b,W.w.cell? ⟨o,10,none⟩=some (.int .u8 E):=fun W=>(a.out.1.below W.h a.out.1.lt).cell 10
    have ab:Hid (∀W:WB b.heap.size b,UT W.w):=hid (fun W=>UT.stays _ _ a.out.2.2 W.h);refine zab b.heap.size b (by kernel_rfl) (by kernel_rfl) (Below.refl _ _) ?_
    iterate 9 (try go_big_quiet_step ((first| (with_reducible refine Calls.grow ((T.out _).mono (fun _ _ ⟨e1,e2⟩=>⟨e1,(WB.h _).trans (e2.mono (WB.h _).size)⟩)))| (with_reducible refine Calls.grow ((H.out _ (ab.out _)).mono (fun _ _ ⟨e1,e2⟩=>⟨e1,(WB.h _).trans (e2.mono (WB.h _).size)⟩))))))
    refine wpQuiet_nil ?_;rintro _ ⟨wz,rfl⟩;clear p0 p1 p2 p3 p4 p5 p6 p7 p8 p9 aa;go_wp2;go_ret2;rw[I.out];refine⟨?_,a.out.2.1.trans (wz.h.mono a.out.2.1.size)⟩;show _=Ending.returned (.tuple #[.string ⟨R1.toArray⟩,.int .i64 (R2:Int)]);rw[ac.out];rfl
end Go.Proofs.YtpjmhafmeieloabGreatDoor

/- Walks: the reference's Ints and Identical, at equal graphs. (Printed by genid.py.) Walks: Instant, Local, Shape. (Printed by genp8.py.) Walks: Instant, Local, Shape. (Printed by genp8.py.) Walks: Shape; the scalars of moments. -/
import Derived.Test.YtoigpackhninoaaGreatDoorZ10
import Derived.Test.YtoigpackhninoaaGreatDoorZ11
import Derived.Test.YtoigpackhninoaaGreatDoorZ12
namespace Go.Proofs.YtoigpackhninoaaGreatDoor
set_option maxRecDepth 100000
set_option maxHeartbeats 16000000
open Go.RowKit
theorem ints_same (A A2:Option Addr) (c d n:Nat) (l:List Int) (hn:Hid (n=l.length)) (hl:n<=9223372036854775807) (w:World) (h:RowAt intI w w.heap.size A l) (h2:RowAt intI w w.heap.size A2 l):
 Calls Tryz.prog 61 #[.slice A n c,.slice A2 n d] w fun e w'=>e=.returned (.bool true)/\Below w.heap.size w w':=by
 have H:=Lib.hid (And.intro h h2);clear h h2;go_enter Tryz.func61,Tryz.ntmps61;go_wp2_with fail;go_loopw [5] (fun s5 wr=>∃k:Nat,k<=n/\s5=.int .i64 (k:Int)/\Hid (Below w.heap.size w wr)) (fun s5 _=>n-(intOf s5).toNat)
 case atStart=>exact⟨0,Nat.zero_le _,rfl,Lib.hid (Below.refl _ _)⟩
 case round=>
  obtain⟨k,hk,rfl,HB⟩:=hrel;by_cases hlt:k<n
  ·have hltI:(k:Int)<(n:Int):=by omega
   obtain⟨ad,rfl,_,y0⟩:=int_atI (H.out.1.below HB.out) (show k<l.length by have:=hn.out;omega);obtain⟨ad2,rfl,_,z0⟩:=int_atI (H.out.2.below HB.out) (show k<l.length by have:=hn.out;omega);obtain⟨p,hp⟩:∃p,l[k]'(by have:=hn.out;omega)=p:=⟨_,rfl⟩
   rw[hp]at y0 z0;clear hp;go_wp2_with fail;go_quiet (fail);go_wp2_with fail;go_roundw
   case rel=>exact⟨k+1,by omega,by go_num,Lib.hid (below_drewN HB.out _)⟩
   case measure=>simp[intOf];omega
  ·have hltI:¬(k:Int)<(n:Int):=by omega
   go_wp2_with fail;go_ret;exact⟨rfl,HB.out⟩
def Sz (is:List Gr.Ni):Prop:=is.length<=9223372036854775807/\∀x∈is,x.text.length<=9223372036854775807/\x.keys.length<=9223372036854775807/\x.items.length<=9223372036854775807
theorem ident_same (A A2:Option Addr) (c c2:Nat) (root:Int) (vs vs2:List NV) (is:List Gr.Ni) (hz:Sz is) (w:World) (h:IAt w w.heap.size A vs is) (h2:IAt w w.heap.size A2 vs2 is):
 Calls Tryz.prog 30 #[.agg #[.slice A is.length c,.int .i64 root],.agg #[.slice A2 is.length c2,.int .i64 root]] w fun e w'=>e=.returned (.bool true)/\Below w.heap.size w w':=by
 have H:=Lib.hid (And.intro h h2);have HZ:=Lib.hid hz;have hl:=hz.1;obtain⟨N,hN⟩:∃N,is.length=N:=⟨_,rfl⟩
 have HN:=Lib.hid hN;rw[hN]at hl ⊢;clear h h2 hz hN;obtain⟨gb,hgb⟩:∃gb,w.heap.size=gb:=⟨_,rfl⟩
 have HGB:=Lib.hid hgb;go_enter Tryz.func30,Tryz.ntmps30;go_upto_region 1 with fail;obtain⟨w1,hw1⟩:∃w1,(w.alloc (.cells #[.slice A N c,.int .i64 root] 24)).alloc (.cells #[.slice A2 N c2,.int .i64 root] 24)=w1:=⟨_,rfl⟩
 have HB1:Hid (Blk w1 gb 24 #[.slice A N c,.int .i64 root]/\Blk w1 (gb+1) 24 #[.slice A2 N c2,.int .i64 root]/\Below gb w w1):=Lib.hid (by
  rw[<-hw1,<-hgb];refine⟨(Blk.new _ _ _).alloc _,?_,((Below.refl _ _).alloc (Nat.le_refl _) _).alloc (by simp) _⟩;have:=Blk.new (w.alloc (.cells #[.slice A N c,.int .i64 root] 24)) 24 #[.slice A2 N c2,.int .i64 root];rw[World.size_alloc]at this;exact this)
 have HI1:Hid (IAt w1 gb A vs is/\IAt w1 gb A2 vs2 is):=Lib.hid (by rw[<-hgb];exact⟨H.out.1.below (by have:=HB1.out.2.2;rwa[<-hgb]at this),H.out.2.below (by have:=HB1.out.2.2;rwa[<-hgb]at this)⟩);(try rw[hw1]);(try rw[hgb]);clear hw1 hgb H;obtain⟨a0,a1⟩:=cells2 HB1.out.1;obtain⟨b0,b1⟩:=cells2 HB1.out.2.1;go_wp2_with fail;clear a0 a1 b0 b1;have HLT:Hid (gb+1<w1.heap.size):=Lib.hid HB1.out.2.1.lt;go_loopw [5] (fun s5 wr=>∃k:Nat,k<=N/\s5=.int .i64 (k:Int)/\Hid (Below w1.heap.size w1 wr)) (fun s5 _=>N-(intOf s5).toNat)
 case atStart=>exact⟨0,Nat.zero_le _,rfl,Lib.hid (Below.refl _ _)⟩
 case round=>
  obtain⟨k,hk,rfl,HB⟩:=hrel;obtain⟨wq,hwq⟩:∃wq,wq=wr:=⟨_,rfl⟩
  subst hwq;have ca:=HB1.out.1.below HB.out HB1.out.1.lt;have cb:=HB1.out.2.1.below HB.out HB1.out.2.1.lt;have a0:wq.cell? ⟨gb,0,none⟩=some (.slice A N c):=ca.cell 0;have b0:wq.cell? ⟨gb+1,0,none⟩=some (.slice A2 N c2):=cb.cell 0;have HSZ:Hid (w1.heap.size<=wq.heap.size):=Lib.hid HB.out.size;clear ca cb;by_cases hlt:k<N
  ·have hltI:(k:Int)<(N:Int):=by omega
   have hkl:k<is.length:=by rw[HN.out];exact hlt
   have lq:=HB.out.mono (show gb<=w1.heap.size by have:=HLT.out;omega);obtain⟨ad,⟨ka,kn,kc⟩,⟨ia,qn,ic⟩,rfl,hadx,c0,c1,c2_,c3,c4,r1,n1,r2,n2⟩:=(HI1.out.1.below lq).node hkl;obtain⟨ad2,⟨ka2,kn2,kc2⟩,⟨ia2,qn2,ic2⟩,rfl,hadx2,d0,d1,d2,d3,d4,s1,m1,s2,m2⟩:=(HI1.out.2.below lq).node hkl;obtain⟨kd,hkd⟩:∃x,is[k].kind=x:=⟨_,rfl⟩
   obtain⟨tx,htx⟩:∃x,is[k].text=x:=⟨_,rfl⟩
   obtain⟨od,hod⟩:∃x,is[k].ord=x:=⟨_,rfl⟩
   obtain⟨K,hK⟩:∃x,is[k].keys=x:=⟨_,rfl⟩
   obtain⟨Q,hQ⟩:∃x,is[k].items=x:=⟨_,rfl⟩
   have hzz:=HZ.out.2 _ (List.getElem_mem hkl);simp only[hkd,htx,hod,hK,hQ]at c0 c1 c2_ d0 d1 d2 r1 n1 r2 n2 s1 m1 s2 m2 hzz;simp only at c3 c4 d3 d4;obtain rfl:kn2=kn:=m1.trans n1.symm;obtain rfl:qn2=qn:=m2.trans n2.symm;have HROW:Hid (RowAt intI wq gb ka K/\RowAt intI wq gb ia Q/\RowAt intI wq gb ka2 K/\RowAt intI wq gb ia2 Q):=Lib.hid ⟨r1,r2,s1,s2⟩;have HLEN:Hid (kn2=K.length/\qn2=Q.length):=Lib.hid ⟨n1,n2⟩;have zk:kn2<=9223372036854775807:=by rw[n1];exact hzz.2.1
   have zq:qn2<=9223372036854775807:=by rw[n2];exact hzz.2.2
   clear hkd htx hod hK hQ r1 n1 r2 n2 s1 m1 s2 m2 hzz lq hkl hadx hadx2;go_wp2_with fail;go_cut [6,7] (fun s6 s7 wx=>∃g6 g7,s6=.pointer (some ⟨g6,0,none⟩)/\s7=.pointer (some ⟨g7,0,none⟩)/\Hid (Blk wx g6 35 #[.int .i64 kd,.string ⟨tx.toArray⟩,.bool od,.slice ka kn2 kc,.slice ia qn2 ic]/\Blk wx g7 35 #[.int .i64 kd,.string ⟨tx.toArray⟩,.bool od,.slice ka2 kn2 kc2,.slice ia2 qn2 ic2]/\Below wq.heap.size wq wx))
   case first=>
    go_region_held3 (fun w'=>w'.cell? ⟨gb,0,none⟩=some (.slice (some ad) N c)/\w'.cell? ⟨gb+1,0,none⟩=some (.slice (some ad2) N c2)/\
     w'.cell? (ad.add (k*5))=some (.int .i64 kd)/\
     w'.cell? {block:=(ad.add (k*5)).block,off:=(ad.add (k*5)).off+1}=some (.string ⟨tx.toArray⟩)/\
     w'.cell? {block:=(ad.add (k*5)).block,off:=(ad.add (k*5)).off+2}=some (.bool od)/\
     w'.cell? {block:=(ad.add (k*5)).block,off:=(ad.add (k*5)).off+3}=some (.slice ka kn2 kc)/\
     w'.cell? {block:=(ad.add (k*5)).block,off:=(ad.add (k*5)).off+4}=some (.slice ia qn2 ic)/\
     w'.cell? (ad2.add (k*5))=some (.int .i64 kd)/\
     w'.cell? {block:=(ad2.add (k*5)).block,off:=(ad2.add (k*5)).off+1}=some (.string ⟨tx.toArray⟩)/\
     w'.cell? {block:=(ad2.add (k*5)).block,off:=(ad2.add (k*5)).off+2}=some (.bool od)/\
     w'.cell? {block:=(ad2.add (k*5)).block,off:=(ad2.add (k*5)).off+3}=some (.slice ka2 kn2 kc2)/\
     w'.cell? {block:=(ad2.add (k*5)).block,off:=(ad2.add (k*5)).off+4}=some (.slice ia2 qn2 ic2))
      (first|go_keep| (simp[go_sem])) (fail)
    all_goals
     go_wp2_with fail;go_meet
    ·refine⟨wq.heap.size,wq.heap.size+1,rfl,rfl,Lib.hid ⟨(Blk.new _ _ _).alloc _,?_,((((Below.refl wq.heap.size wq).alloc (Nat.le_refl _) _).alloc (by simp) _).drew)⟩⟩;have:=Blk.new (wq.alloc (.cells #[.int .i64 kd,.string ⟨tx.toArray⟩,.bool od,.slice ka kn2 kc,.slice ia qn2 ic] 35)) 35 #[.int .i64 kd,.string ⟨tx.toArray⟩,.bool od,.slice ka2 kn2 kc2,.slice ia2 qn2 ic2];rw[World.size_alloc]at this;exact this
    ·refine⟨wq.heap.size+1,wq.heap.size,rfl,rfl,Lib.hid ⟨?_,(Blk.new _ _ _).alloc _,((((Below.refl wq.heap.size wq).alloc (Nat.le_refl _) _).alloc (by simp) _).drew)⟩⟩;have:=Blk.new (wq.alloc (.cells #[.int .i64 kd,.string ⟨tx.toArray⟩,.bool od,.slice ka2 kn2 kc2,.slice ia2 qn2 ic2] 35)) 35 #[.int .i64 kd,.string ⟨tx.toArray⟩,.bool od,.slice ka kn2 kc,.slice ia qn2 ic];rw[World.size_alloc]at this;exact this
   case rest=>
    obtain⟨g6,g7,rfl,rfl,HBK⟩:=hcut;clear c0 c1 c2_ c3 c4 d0 d1 d2 d3 d4 a0 b0;obtain⟨e0,e1,e2,e3⟩:=cells4 HBK.out.1;obtain⟨f0,f1,f2,f3⟩:=cells4 HBK.out.2.1;have hts:((⟨tx.toArray⟩:ByteArray)==⟨tx.toArray⟩)=true:=by rw[str_eq];simp
    have HLW:Hid (Below gb wq wc):=Lib.hid (HBK.out.2.2.mono (by have:=HLT.out;have:=HSZ.out;omega));have HC1:=Lib.hid (ints_same ka ka2 kc kc2 kn2 K (Lib.hid HLEN.out.1) zk wc ((HROW.out.1.below HLW.out).more (by have:=HLT.out;have:=HSZ.out;have:=HBK.out.2.2.size;omega)) ((HROW.out.2.2.1.below HLW.out).more (by have:=HLT.out;have:=HSZ.out;have:=HBK.out.2.2.size;omega)));go_wp2_with fail;refine HC1.out.mono ?_;rintro _ w5 ⟨rfl,hb5⟩;have HB5:=Lib.hid hb5;have x6:=HBK.out.1.below hb5 HBK.out.1.lt;have x7:=HBK.out.2.1.below hb5 HBK.out.2.1.lt;have e4:w5.cell? ⟨g6,4,none⟩=some (.slice ia qn2 ic):=x6.cell 4;have f4:w5.cell? ⟨g7,4,none⟩=some (.slice ia2 qn2 ic2):=x7.cell 4;have HLW5:Hid (Below gb wq w5):=Lib.hid (HLW.out.trans (hb5.mono (by have:=HLT.out;have:=HSZ.out;have:=HBK.out.2.2.size;omega)));have HC2:=Lib.hid (ints_same ia ia2 ic ic2 qn2 Q (Lib.hid HLEN.out.2) zq w5 ((HROW.out.2.1.below HLW5.out).more (by have:=HLT.out;have:=HSZ.out;have:=HBK.out.2.2.size;have:=hb5.size;omega)) ((HROW.out.2.2.2.below HLW5.out).more (by have:=HLT.out;have:=HSZ.out;have:=HBK.out.2.2.size;have:=hb5.size;omega)));clear hb5 x6 x7 e0 e1 e2 e3 f0 f1 f2 f3;go_wp2_with fail;refine HC2.out.mono ?_;rintro _ w6 ⟨rfl,hb6⟩;have HB6:Hid (Below w1.heap.size w1 w6):=Lib.hid (HB.out.trans ((HBK.out.2.2.mono HSZ.out).trans ((HB5.out.mono (by have:=HSZ.out;have:=HBK.out.2.2.size;omega)).trans (hb6.mono (by have:=HSZ.out;have:=HBK.out.2.2.size;have:=HB5.out.size;omega)))));clear hb6 e4 f4;go_wp2_with fail;go_roundw
    case rel=>exact⟨k+1,by omega,by go_num,HB6⟩
    case measure=>simp[intOf];omega
  ·have hltI:¬(k:Int)<(N:Int):=by omega
   go_wp2_with fail;go_ret;exact⟨rfl,by rw[HGB.out];exact HB1.out.2.2.trans (HB.out.mono (by have:=HLT.out;omega))⟩
end Go.Proofs.YtoigpackhninoaaGreatDoor
namespace Go.Proofs.YtoigpackhninoaaGreatDoor
set_option maxRecDepth 100000
set_option maxHeartbeats 16000000
open Go.RowKit
theorem pinstant_any (s:Gr.Str) (hl:s.length<=1073741823) (w:World) (hT:UT w):Calls Tryz.prog 73 #[.string ⟨s.toArray⟩] w (RIPostP (Gr.insP s) w):=by
 have HT:=Lib.hid hT;clear hT;obtain⟨r,hr⟩:∃r,Gr.insP s=r:=⟨_,rfl⟩
 have HR:=Lib.hid hr;rw[hr];clear hr;have HIN:Hid (Gr.insP s=match Gr.rd s with|none=>([],3)|some x=>if x.z=0 then([],3)else if Gr.okR x=false then([],13)else osP (Gr.secs x) x.nanos):=Lib.hid rfl;cases hrd:Gr.rd s with
 |none=>
  have HF:Hid (r=([],3)):=Lib.hid (by rw[<-HR.out,HIN.out,hrd]);have HRD:=Lib.hid (fun W=>read_none hl hrd W);clear hrd;go_enter Tryz.func73,Tryz.ntmps73;go_wp2_with fail;refine(HRD.out _).mono ?_;rintro e w1 ⟨hb1,sh,y,m,d,h,mi,c,zh,zm,n,z,rfl⟩;have HB1:=Lib.hid hb1;clear hb1;go_wp2_with fail;go_ret2;rw[HF.out];exact⟨rfl,HB1.out.alloc HB1.out.size _⟩
 |some x=>
  have hok:=rd_ok hrd;have hmz:=mo_z hrd;have HRD0:=Lib.hid (fun W=>read_some hl hrd W);have hrg:=prng_ok hok;have HRG0:=Lib.hid (fun W=>pranges_any ((moSh x:Nat):Int) x.y x.m x.d x.h x.mi x.c x.zh x.zm (x.nanos:Int) ((x.z.toNat:Nat):Int) W);rw[hrg]at HRG0;obtain⟨sh,hsh⟩:∃sh,moSh x=sh:=⟨_,rfl⟩
  obtain⟨zz,hzz⟩:∃zz:Int,((x.z.toNat:Nat):Int)=zz:=⟨_,rfl⟩
  have HSC0:=fun(hv:Cal.vld x.y x.m x.d=true) (h1:(x.z=90/\x.zh=0/\x.zm=0)\/x.z=43\/x.z=45) W=>pseconds_any ((moSh x:Nat):Int) (x.y:Int) (x.m:Int) (x.d:Int) (x.h:Int) (x.mi:Int) (x.c:Int) (x.zh:Int) (x.zm:Int) (x.nanos:Int) ((x.z.toNat:Nat):Int) hv (by omega) (by have:=hok.h;omega) (by omega) (by have:=hok.mi;omega) (by omega) (by have:=hok.c;omega) (by omega) (by have:=hok.zh;omega) (by omega) (by have:=hok.zm;omega) W
  have HRD:=HRD0;have HRG:=HRG0;rw[hsh,hzz]at HRD HRG;clear HRD0 HRG0;have HZZ:=Lib.hid hzz;have HSH:=Lib.hid hsh;have HOK:=Lib.hid hok;have HMZ:=Lib.hid hmz;by_cases hz:x.z=0
  ·have HF:Hid (r=([],3)):=Lib.hid (by rw[<-HR.out,HIN.out,hrd];simp only;rw[if_pos hz]);obtain rfl:0=zz:=by rw[<-hzz,hz];rfl
   have hz0b:((0:Int)==0)=true:=rfl;clear hrd hok hmz hrg hsh hzz hz HSC0;go_enter Tryz.func73,Tryz.ntmps73;go_wp2_with fail;refine(HRD.out _).mono ?_;rintro e w1 ⟨rfl,hb1⟩;have HB1:=Lib.hid hb1;clear hb1;go_wp2_with fail;go_ret2;rw[HF.out];exact⟨rfl,HB1.out.alloc HB1.out.size _⟩
  ·have hzn:=u8_z hz;rw[hzz]at hzn;have hznb:(zz==0)=false:=by simpa using hzn
   have hz3:=hmz.1.resolve_left hz;have hdt:x.date=true/\x.time=true:=by
    rcases hok.sh with h|⟨_,_,h⟩|⟨_,_,h⟩
    ·exact h
    ·exact absurd h hz
    ·exact absurd h hz
   cases hr:Gr.okR x with
   |false=>
    have HF:Hid (r=([],13)):=Lib.hid (by rw[<-HR.out,HIN.out,hrd];simp only;rw[if_neg hz,if_pos hr]);rw[hr]at HRG;clear hrd hok hmz hrg hsh hzz hz hr HSC0 hdt hz3;go_enter Tryz.func73,Tryz.ntmps73;go_wp2_with fail;refine(HRD.out _).mono ?_;rintro e w1 ⟨rfl,hb1⟩;go_upto_region 2 with fail;obtain⟨gb,hgb⟩:∃gb,w1.heap.size=gb:=⟨_,rfl⟩
    obtain⟨w2,hw2⟩:∃w2,w2=w1.alloc (.cells #[.int .i64 (sh:Int),.int .i64 (x.y:Int),.int .i64 (x.m:Int),.int .i64 (x.d:Int),.int .i64 (x.h:Int),.int .i64 (x.mi:Int),.int .i64 (x.c:Int),.int .i64 (x.zh:Int),.int .i64 (x.zm:Int),.int .i64 (x.nanos:Int),.int .u8 zz] 135):=⟨_,rfl⟩
    have HB2:Hid (Blk w2 gb 135 #[.int .i64 (sh:Int),.int .i64 (x.y:Int),.int .i64 (x.m:Int),.int .i64 (x.d:Int),.int .i64 (x.h:Int),.int .i64 (x.mi:Int),.int .i64 (x.c:Int),.int .i64 (x.zh:Int),.int .i64 (x.zm:Int),.int .i64 (x.nanos:Int),.int .u8 zz]/\Below w.heap.size w w2/\UT w2):=Lib.hid (by
     have h2:Below w.heap.size w w2:=by rw[hw2];exact hb1.alloc hb1.size _
     exact⟨by rw[hw2,<-hgb];exact Blk.new _ _ _,h2,UT.stays _ _ HT.out h2⟩)
    (try rw[<-hw2]);(try rw[hgb]);clear hw2 hgb hb1;obtain⟨q0,q1,q2,q3,q4,q5,q6,q7,q8,q9,q10⟩:=cells11 HB2.out.1;go_wp2_with fail;refine(HRG.out _).mono ?_;rintro e w3 ⟨rfl,hb3⟩;have HB3:Hid (Blk w3 gb 135 #[.int .i64 (sh:Int),.int .i64 (x.y:Int),.int .i64 (x.m:Int),.int .i64 (x.d:Int),.int .i64 (x.h:Int),.int .i64 (x.mi:Int),.int .i64 (x.c:Int),.int .i64 (x.zh:Int),.int .i64 (x.zm:Int),.int .i64 (x.nanos:Int),.int .u8 zz]/\Below w.heap.size w w3/\UT w3):=Lib.hid ⟨HB2.out.1.below hb3 HB2.out.1.lt,HB2.out.2.1.trans (hb3.mono HB2.out.2.1.size),UT.stays _ _ HB2.out.2.2 hb3⟩;clear hb3 q0 q1 q2 q3 q4 q5 q6 q7 q8 q9 q10;go_wp2_with fail;go_ret2;rw[HF.out];exact⟨rfl,HB3.out.2.1⟩
   |true=>
    have HF:Hid (r=osP (Gr.secs x) x.nanos):=Lib.hid (by rw[<-HR.out,HIN.out,hrd];simp only;rw[if_neg hz,if_neg (by rw[hr];decide)]);rw[hr]at HRG;obtain⟨hv,hs0,hs1,_,_⟩:=secs_bd hok hr hdt.1;have HSC:=Lib.hid (HSC0 hv hz3);rw[psecs hz3,hsh,hzz]at HSC;obtain⟨q,hq⟩:∃q,Gr.secs x=q:=⟨_,rfl⟩
    rw[hq]at HSC HF hs0 hs1;have HOS:=Lib.hid (fun W hW=>ofseconds_any q x.nanos (x.nanos:Int) rfl hok.nanos (by omega) (by omega) W hW);unfold RIPostP at HOS ⊢;obtain⟨⟨R1,R2⟩,hR⟩:∃R,osP q x.nanos=R:=⟨_,rfl⟩
    rw[hR]at HOS HF;simp only at HOS;obtain⟨Ri,hRi⟩:∃Ri:Int,(R2:Int)=Ri:=⟨_,rfl⟩
    rw[hRi]at HOS;have HRI:=Lib.hid hRi;clear hrd hok hmz hrg hsh hzz hz hr HSC0 hdt hz3 hv hs0 hs1 hq hR hRi;go_enter Tryz.func73,Tryz.ntmps73;go_wp2_with fail;refine(HRD.out _).mono ?_;rintro e w1 ⟨rfl,hb1⟩;go_upto_region 2 with fail;obtain⟨gb,hgb⟩:∃gb,w1.heap.size=gb:=⟨_,rfl⟩
    obtain⟨w2,hw2⟩:∃w2,w2=w1.alloc (.cells #[.int .i64 (sh:Int),.int .i64 (x.y:Int),.int .i64 (x.m:Int),.int .i64 (x.d:Int),.int .i64 (x.h:Int),.int .i64 (x.mi:Int),.int .i64 (x.c:Int),.int .i64 (x.zh:Int),.int .i64 (x.zm:Int),.int .i64 (x.nanos:Int),.int .u8 zz] 135):=⟨_,rfl⟩
    have HB2:Hid (Blk w2 gb 135 #[.int .i64 (sh:Int),.int .i64 (x.y:Int),.int .i64 (x.m:Int),.int .i64 (x.d:Int),.int .i64 (x.h:Int),.int .i64 (x.mi:Int),.int .i64 (x.c:Int),.int .i64 (x.zh:Int),.int .i64 (x.zm:Int),.int .i64 (x.nanos:Int),.int .u8 zz]/\Below w.heap.size w w2/\UT w2):=Lib.hid (by
     have h2:Below w.heap.size w w2:=by rw[hw2];exact hb1.alloc hb1.size _
     exact⟨by rw[hw2,<-hgb];exact Blk.new _ _ _,h2,UT.stays _ _ HT.out h2⟩)
    (try rw[<-hw2]);(try rw[hgb]);clear hw2 hgb hb1;obtain⟨q0,q1,q2,q3,q4,q5,q6,q7,q8,q9,q10⟩:=cells11 HB2.out.1;go_wp2_with fail;refine(HRG.out _).mono ?_;rintro e w3 ⟨rfl,hb3⟩;have HB3:Hid (Blk w3 gb 135 #[.int .i64 (sh:Int),.int .i64 (x.y:Int),.int .i64 (x.m:Int),.int .i64 (x.d:Int),.int .i64 (x.h:Int),.int .i64 (x.mi:Int),.int .i64 (x.c:Int),.int .i64 (x.zh:Int),.int .i64 (x.zm:Int),.int .i64 (x.nanos:Int),.int .u8 zz]/\Below w.heap.size w w3/\UT w3):=Lib.hid ⟨HB2.out.1.below hb3 HB2.out.1.lt,HB2.out.2.1.trans (hb3.mono HB2.out.2.1.size),UT.stays _ _ HB2.out.2.2 hb3⟩;clear hb3 q0 q1 q2 q3 q4 q5 q6 q7 q8 q9 q10;go_upto_region 6 with fail;have p0:∀W:WB w3.heap.size w3,W.w.cell? ⟨gb,0,none⟩=some (.int .i64 (sh:Int)):=fun W=>(HB3.out.1.below W.h HB3.out.1.lt).cell 0
    have p1:∀W:WB w3.heap.size w3,W.w.cell? ⟨gb,1,none⟩=some (.int .i64 (x.y:Int)):=fun W=>(HB3.out.1.below W.h HB3.out.1.lt).cell 1
    have p2:∀W:WB w3.heap.size w3,W.w.cell? ⟨gb,2,none⟩=some (.int .i64 (x.m:Int)):=fun W=>(HB3.out.1.below W.h HB3.out.1.lt).cell 2
    have p3:∀W:WB w3.heap.size w3,W.w.cell? ⟨gb,3,none⟩=some (.int .i64 (x.d:Int)):=fun W=>(HB3.out.1.below W.h HB3.out.1.lt).cell 3
    have p4:∀W:WB w3.heap.size w3,W.w.cell? ⟨gb,4,none⟩=some (.int .i64 (x.h:Int)):=fun W=>(HB3.out.1.below W.h HB3.out.1.lt).cell 4
    have p5:∀W:WB w3.heap.size w3,W.w.cell? ⟨gb,5,none⟩=some (.int .i64 (x.mi:Int)):=fun W=>(HB3.out.1.below W.h HB3.out.1.lt).cell 5
    have p6:∀W:WB w3.heap.size w3,W.w.cell? ⟨gb,6,none⟩=some (.int .i64 (x.c:Int)):=fun W=>(HB3.out.1.below W.h HB3.out.1.lt).cell 6
    have p7:∀W:WB w3.heap.size w3,W.w.cell? ⟨gb,7,none⟩=some (.int .i64 (x.zh:Int)):=fun W=>(HB3.out.1.below W.h HB3.out.1.lt).cell 7
    have p8:∀W:WB w3.heap.size w3,W.w.cell? ⟨gb,8,none⟩=some (.int .i64 (x.zm:Int)):=fun W=>(HB3.out.1.below W.h HB3.out.1.lt).cell 8
    have p9:∀W:WB w3.heap.size w3,W.w.cell? ⟨gb,9,none⟩=some (.int .i64 (x.nanos:Int)):=fun W=>(HB3.out.1.below W.h HB3.out.1.lt).cell 9
    have p10:∀W:WB w3.heap.size w3,W.w.cell? ⟨gb,10,none⟩=some (.int .u8 zz):=fun W=>(HB3.out.1.below W.h HB3.out.1.lt).cell 10
    have HUT:Hid (∀W:WB w3.heap.size w3,UT W.w):=Lib.hid (fun W=>UT.stays _ _ HB3.out.2.2 W.h);refine wp_region_grow w3.heap.size w3 (by kernel_rfl) (by kernel_rfl) (Below.refl _ _) ?_
    iterate 9 (try go_big_quiet_step ((first| (with_reducible refine Calls.grow ((HSC.out _).mono (fun _ _ ⟨e1,e2⟩=>⟨e1,(WB.h _).trans (e2.mono (WB.h _).size)⟩)))| (with_reducible refine Calls.grow ((HOS.out _ (HUT.out _)).mono (fun _ _ ⟨e1,e2⟩=>⟨e1,(WB.h _).trans (e2.mono (WB.h _).size)⟩))))))
    refine wpQuiet_nil ?_;rintro _ ⟨wz,rfl⟩;clear p0 p1 p2 p3 p4 p5 p6 p7 p8 p9 p10;go_wp2_with fail;go_ret2;rw[HF.out];refine⟨?_,HB3.out.2.1.trans (wz.h.mono HB3.out.2.1.size)⟩;show _=Ending.returned (.tuple #[.string ⟨R1.toArray⟩,.int .i64 (R2:Int)]);rw[HRI.out];rfl
end Go.Proofs.YtoigpackhninoaaGreatDoor
namespace Go.Proofs.YtoigpackhninoaaGreatDoor
set_option maxRecDepth 100000
set_option maxHeartbeats 16000000
open Go.RowKit
theorem ptext_loc {x:Gr.Mo} (h:MoOk x) (hn:x.time=false->x.nanos=0) (zz:Int) (W:World) (hW:UT W):
 Calls Tryz.prog 128 #[.agg #[.int .i64 ((moSh x:Nat):Int),.int .i64 (x.y:Int),.int .i64 (x.m:Int),.int .i64 (x.d:Int),.int .i64 (x.h:Int),.int .i64 (x.mi:Int),.int .i64 (x.c:Int),.int .i64 (x.zh:Int),.int .i64 (x.zm:Int),.int .i64 (x.nanos:Int),.int .u8 zz]] W fun e w'=>e=.returned (.string ⟨(Gr.locS x).toArray⟩)/\Below W.heap.size W w':=by
 have a:=h.y;have b:=h.m;have c:=h.d;have d:=h.h;have e:=h.mi;have f:=h.c;have g:=h.nanos;rcases h.sh with⟨h1,h2⟩|⟨h1,h2,_⟩|⟨h1,h2,_⟩
 ·have:=ptext_3 x.y x.m x.d x.h x.mi x.c x.nanos (x.zh:Int) (x.zm:Int) zz (by omega) (by omega) (by omega) (by omega) (by omega) (by omega) g W hW;unfold Gr.locS moSh;rw[h1,h2];simpa using this
 ·have:=ptext_1 x.y x.m x.d x.h x.mi x.c x.nanos (x.zh:Int) (x.zm:Int) zz (by omega) (by omega) (by omega) (by omega) (by omega) (by omega) g (hn h2) W hW;unfold Gr.locS moSh;rw[h1,h2];simpa using this
 ·have:=ptext_2 x.y x.m x.d x.h x.mi x.c x.nanos (x.zh:Int) (x.zm:Int) zz (by omega) (by omega) (by omega) (by omega) (by omega) (by omega) g W hW;unfold Gr.locS moSh;rw[h1,h2];simpa using this
theorem plocal_any (s:Gr.Str) (hl:s.length<=1073741823) (w:World) (hT:UT w):Calls Tryz.prog 96 #[.string ⟨s.toArray⟩] w (RIPostP (Gr.locP s) w):=by
 have HT:=Lib.hid hT;clear hT;obtain⟨r,hr⟩:∃r,Gr.locP s=r:=⟨_,rfl⟩
 have HR:=Lib.hid hr;rw[hr];clear hr;have HIN:Hid (Gr.locP s=match Gr.rd s with|none=>([],3)|some x=>if x.z≠0 then([],3)else if Gr.okR x=false then([],13)else(Gr.locS x,0)):=Lib.hid rfl;cases hrd:Gr.rd s with
 |none=>
  have HF:Hid (r=([],3)):=Lib.hid (by rw[<-HR.out,HIN.out,hrd]);have HRD:=Lib.hid (fun W=>read_none hl hrd W);clear hrd;go_enter Tryz.func96,Tryz.ntmps96;go_wp2_with fail;refine(HRD.out _).mono ?_;rintro e w1 ⟨hb1,sh,y,m,d,h,mi,c,zh,zm,n,z,rfl⟩;have HB1:=Lib.hid hb1;clear hb1;go_wp2_with fail;go_ret2;rw[HF.out];exact⟨rfl,HB1.out.alloc HB1.out.size _⟩
 |some x=>
  have hok:=rd_ok hrd;have hmz:=mo_z hrd;have HRD0:=Lib.hid (fun W=>read_some hl hrd W);have hrg:=prng_ok hok;have HRG0:=Lib.hid (fun W=>pranges_any ((moSh x:Nat):Int) x.y x.m x.d x.h x.mi x.c x.zh x.zm (x.nanos:Int) ((x.z.toNat:Nat):Int) W);rw[hrg]at HRG0;obtain⟨sh,hsh⟩:∃sh,moSh x=sh:=⟨_,rfl⟩
  obtain⟨zz,hzz⟩:∃zz:Int,((x.z.toNat:Nat):Int)=zz:=⟨_,rfl⟩
  have HTX:=Lib.hid (fun W hW=>ptext_loc hok hmz.2 zz W hW);rw[hsh]at HTX;obtain⟨tx,htx⟩:∃tx,Gr.locS x=tx:=⟨_,rfl⟩
  rw[htx]at HTX;have HTE:=Lib.hid htx;have HRD:=HRD0;have HRG:=HRG0;rw[hsh,hzz]at HRD HRG;clear HRD0 HRG0 htx;by_cases hz:x.z=0
  ·obtain rfl:0=zz:=by rw[<-hzz,hz];rfl
   have hz0b:((0:Int)==0)=true:=rfl;have hz0c:((0:Int) != 0)=false:=rfl;cases hr:Gr.okR x with
   |false=>
    have HF:Hid (r=([],13)):=Lib.hid (by rw[<-HR.out,HIN.out,hrd];simp only;rw[if_neg (by simp[hz]),if_pos hr]);rw[hr]at HRG;clear hrd hok hmz hrg hsh hzz hz hr;go_enter Tryz.func96,Tryz.ntmps96;go_wp2_with fail;refine(HRD.out _).mono ?_;rintro e w1 ⟨rfl,hb1⟩;go_upto_region 2 with fail;obtain⟨gb,hgb⟩:∃gb,w1.heap.size=gb:=⟨_,rfl⟩
    obtain⟨w2,hw2⟩:∃w2,w2=w1.alloc (.cells #[.int .i64 (sh:Int),.int .i64 (x.y:Int),.int .i64 (x.m:Int),.int .i64 (x.d:Int),.int .i64 (x.h:Int),.int .i64 (x.mi:Int),.int .i64 (x.c:Int),.int .i64 (x.zh:Int),.int .i64 (x.zm:Int),.int .i64 (x.nanos:Int),.int .u8 0] 135):=⟨_,rfl⟩
    have HB2:Hid (Blk w2 gb 135 #[.int .i64 (sh:Int),.int .i64 (x.y:Int),.int .i64 (x.m:Int),.int .i64 (x.d:Int),.int .i64 (x.h:Int),.int .i64 (x.mi:Int),.int .i64 (x.c:Int),.int .i64 (x.zh:Int),.int .i64 (x.zm:Int),.int .i64 (x.nanos:Int),.int .u8 0]/\Below w.heap.size w w2/\UT w2):=Lib.hid (by
     have h2:Below w.heap.size w w2:=by rw[hw2];exact hb1.alloc hb1.size _
     exact⟨by rw[hw2,<-hgb];exact Blk.new _ _ _,h2,UT.stays _ _ HT.out h2⟩)
    (try rw[<-hw2]);(try rw[hgb]);clear hw2 hgb hb1;obtain⟨q0,q1,q2,q3,q4,q5,q6,q7,q8,q9,q10⟩:=cells11 HB2.out.1;go_wp2_with fail;refine(HRG.out _).mono ?_;rintro e w3 ⟨rfl,hb3⟩;have HB3:Hid (Blk w3 gb 135 #[.int .i64 (sh:Int),.int .i64 (x.y:Int),.int .i64 (x.m:Int),.int .i64 (x.d:Int),.int .i64 (x.h:Int),.int .i64 (x.mi:Int),.int .i64 (x.c:Int),.int .i64 (x.zh:Int),.int .i64 (x.zm:Int),.int .i64 (x.nanos:Int),.int .u8 0]/\Below w.heap.size w w3/\UT w3):=Lib.hid ⟨HB2.out.1.below hb3 HB2.out.1.lt,HB2.out.2.1.trans (hb3.mono HB2.out.2.1.size),UT.stays _ _ HB2.out.2.2 hb3⟩;clear hb3 q0 q1 q2 q3 q4 q5 q6 q7 q8 q9 q10;go_wp2_with fail;go_ret2;rw[HF.out];exact⟨rfl,HB3.out.2.1⟩
   |true=>
    have HF:Hid (r=(tx,0)):=Lib.hid (by rw[<-HR.out,HIN.out,hrd];simp only;rw[if_neg (by simp[hz]),if_neg (by rw[hr];decide),HTE.out]);rw[hr]at HRG;clear hrd hok hmz hrg hsh hzz hz hr;go_enter Tryz.func96,Tryz.ntmps96;go_wp2_with fail;refine(HRD.out _).mono ?_;rintro e w1 ⟨rfl,hb1⟩;go_upto_region 2 with fail;obtain⟨gb,hgb⟩:∃gb,w1.heap.size=gb:=⟨_,rfl⟩
    obtain⟨w2,hw2⟩:∃w2,w2=w1.alloc (.cells #[.int .i64 (sh:Int),.int .i64 (x.y:Int),.int .i64 (x.m:Int),.int .i64 (x.d:Int),.int .i64 (x.h:Int),.int .i64 (x.mi:Int),.int .i64 (x.c:Int),.int .i64 (x.zh:Int),.int .i64 (x.zm:Int),.int .i64 (x.nanos:Int),.int .u8 0] 135):=⟨_,rfl⟩
    have HB2:Hid (Blk w2 gb 135 #[.int .i64 (sh:Int),.int .i64 (x.y:Int),.int .i64 (x.m:Int),.int .i64 (x.d:Int),.int .i64 (x.h:Int),.int .i64 (x.mi:Int),.int .i64 (x.c:Int),.int .i64 (x.zh:Int),.int .i64 (x.zm:Int),.int .i64 (x.nanos:Int),.int .u8 0]/\Below w.heap.size w w2/\UT w2):=Lib.hid (by
     have h2:Below w.heap.size w w2:=by rw[hw2];exact hb1.alloc hb1.size _
     exact⟨by rw[hw2,<-hgb];exact Blk.new _ _ _,h2,UT.stays _ _ HT.out h2⟩)
    (try rw[<-hw2]);(try rw[hgb]);clear hw2 hgb hb1;obtain⟨q0,q1,q2,q3,q4,q5,q6,q7,q8,q9,q10⟩:=cells11 HB2.out.1;go_wp2_with fail;refine(HRG.out _).mono ?_;rintro e w3 ⟨rfl,hb3⟩;have HB3:Hid (Blk w3 gb 135 #[.int .i64 (sh:Int),.int .i64 (x.y:Int),.int .i64 (x.m:Int),.int .i64 (x.d:Int),.int .i64 (x.h:Int),.int .i64 (x.mi:Int),.int .i64 (x.c:Int),.int .i64 (x.zh:Int),.int .i64 (x.zm:Int),.int .i64 (x.nanos:Int),.int .u8 0]/\Below w.heap.size w w3/\UT w3):=Lib.hid ⟨HB2.out.1.below hb3 HB2.out.1.lt,HB2.out.2.1.trans (hb3.mono HB2.out.2.1.size),UT.stays _ _ HB2.out.2.2 hb3⟩;clear hb3 q0 q1 q2 q3 q4 q5 q6 q7 q8 q9 q10;go_upto_region 6 with fail;obtain⟨q0,q1,q2,q3,q4,q5,q6,q7,q8,q9,q10⟩:=cells11 HB3.out.1;go_wp2_with fail;refine(HTX.out _ HB3.out.2.2).mono ?_;rintro e w4 ⟨rfl,hb4⟩;have HB4:Hid (Below w.heap.size w w4):=Lib.hid (HB3.out.2.1.trans (hb4.mono HB3.out.2.1.size));clear hb4;go_wp2_with fail;go_ret2;rw[HF.out];exact⟨rfl,HB4.out⟩
  ·have HF:Hid (r=([],3)):=Lib.hid (by rw[<-HR.out,HIN.out,hrd];simp only;rw[if_pos hz]);have hzn:=u8_z hz;rw[hzz]at hzn;have hznb:(zz==0)=false:=by simpa using hzn
   have hznc:(zz != 0)=true:=by simpa using hzn
   clear hrd hok hmz hrg hsh hzz hz;go_enter Tryz.func96,Tryz.ntmps96;go_wp2_with fail;refine(HRD.out _).mono ?_;rintro e w1 ⟨rfl,hb1⟩;have HB1:=Lib.hid hb1;clear hb1;go_wp2_with fail;go_ret2;rw[HF.out];exact⟨rfl,HB1.out.alloc HB1.out.size _⟩
end Go.Proofs.YtoigpackhninoaaGreatDoor
namespace Go.Proofs.YtoigpackhninoaaGreatDoor
set_option maxRecDepth 100000
set_option maxHeartbeats 16000000
open Go.RowKit
theorem locP_none {s:Gr.Str} (h:Gr.rd s=none):(Gr.locP s).2=3:=by unfold Gr.locP;rw[h]
theorem sh_pos {x:Gr.Mo} (h:MoOk x):1<=moSh x:=by
 unfold moSh;rcases h.sh with⟨h1,h2⟩|⟨h1,h2,_⟩|⟨h1,h2,_⟩<;>rw[h1,h2]<;>decide
theorem pshape_any (s:Gr.Str) (hl:s.length<=1073741823) (w:World) (hT:UT w):
 Calls Tryz.prog 74 #[.string ⟨s.toArray⟩] w fun e w'=>(∃n:Int,e=.returned (.int .i64 n)/\(n != 0)=Gr.locB s)/\Below w.heap.size w w':=by
 have HC:=Lib.hid (plocal_any s hl w hT);have HB:Hid (Gr.locB s=decide ((Gr.locP s).2=0/\(Gr.locP s).1=s)):=Lib.hid rfl;obtain⟨r,hr⟩:∃r,Gr.locB s=r:=⟨_,rfl⟩
 rw[hr]at HB ⊢;have HN:=Lib.hid (fun h=>locP_none (s:=s) h);have HRS:=Lib.hid (fun x (h:Gr.rd s=some x)=>And.intro (fun W=>read_some hl h W) (rd_ok h));obtain⟨⟨l,k⟩,hp⟩:∃p,Gr.locP s=p:=⟨_,rfl⟩
 rw[hp]at HC HB HN;obtain⟨ki,hki⟩:∃ki:Int,(k:Int)=ki:=⟨_,rfl⟩
 unfold RIPostP at HC;simp only[hki]at HC HB;have HK:=Lib.hid hki;clear hr hp hki hT;by_cases h0:ki=0
 ·subst h0;have h0b:((0:Int)==0)=true:=rfl;have h0c:((0:Int) != 0)=false:=rfl;by_cases hs:l=s
  ·have hsb:(l==s)=true:=by rw[beq_iff_eq];exact hs
   have hsc:(l != s)=false:=by rw[bne,hsb];rfl
   have HF:Hid (r=true):=Lib.hid (by rw[HB.out];simp[hs];have:=HK.out;omega);cases hrd:Gr.rd s with
   |none=>exact absurd (HN.out hrd) (by have:=HK.out;simp only;omega)
   |some x=>
    obtain⟨hrx,hok⟩:=HRS.out x hrd;have HRX:=Lib.hid hrx;have hsp:=sh_pos hok;obtain⟨sh,hsh⟩:∃sh,moSh x=sh:=⟨_,rfl⟩
    obtain⟨zz,hzz⟩:∃zz:Int,((x.z.toNat:Nat):Int)=zz:=⟨_,rfl⟩
    rw[hsh,hzz]at HRX;rw[hsh]at hsp;clear hs hrd hok hrx hsh hzz HRS HN;go_enter Tryz.func74,Tryz.ntmps74;go_wp2_with fail;refine HC.out.mono ?_;rintro e w1 ⟨rfl,hb1⟩;have HB1:=Lib.hid hb1;clear hb1;go_wp2_with fail;refine(HRX.out _).mono ?_;rintro e w2 ⟨rfl,hb2⟩;have HB2:=Lib.hid (HB1.out.trans (hb2.mono HB1.out.size));clear hb2;go_wp2_with fail;go_ret;exact⟨⟨_,rfl,by rw[HF.out];simp;omega⟩,HB2.out.alloc HB2.out.size _⟩
  ·have hsb:(l==s)=false:=by rw[beq_eq_false_iff_ne];exact hs
   have hsc:(l != s)=true:=by rw[bne,hsb];rfl
   have HF:Hid (r=false):=Lib.hid (by rw[HB.out];simp[hs]);clear hs HRS HN;go_enter Tryz.func74,Tryz.ntmps74;go_wp2_with fail;refine HC.out.mono ?_;rintro e w1 ⟨rfl,hb1⟩;have HB1:=Lib.hid hb1;clear hb1;go_wp2_with fail;go_ret;exact⟨⟨_,rfl,by rw[HF.out];rfl⟩,HB1.out⟩
 ·have h0b:(ki==0)=false:=by simpa using h0
  have h0c:(ki != 0)=true:=by rw[bne,h0b];rfl
  have HF:Hid (r=false):=Lib.hid (by rw[HB.out];simp;intro e;exact absurd (by have:=HK.out;omega) h0);clear HRS HN;go_enter Tryz.func74,Tryz.ntmps74;go_wp2_with fail;refine HC.out.mono ?_;rintro e w1 ⟨rfl,hb1⟩;have HB1:=Lib.hid hb1;clear hb1;go_wp2_with fail;go_ret;exact⟨⟨_,rfl,by rw[HF.out];rfl⟩,HB1.out⟩
theorem scal_loc (text:Gr.Str) (hl:text.length<=1073741823):ScalOk UT 8 text (Gr.locB text):=by
 intro w hw;have HC:=Lib.hid (pshape_any text hl w hw);obtain⟨r,hr⟩:∃r,Gr.locB text=r:=⟨_,rfl⟩
 rw[hr]at HC ⊢;clear hr hw;go_enter Tryz.func42,Tryz.ntmps42;go_wp2_with fail;refine HC.out.mono ?_;rintro e w2 ⟨⟨n,rfl,hn⟩,hb⟩;have HB:=Lib.hid hb;have HNN:=Lib.hid hn;clear hb hn;go_wp2_with fail;go_ret;exact⟨by rw[<-HNN.out];rfl,HB.out⟩
theorem scal_ins (text:Gr.Str) (hl:text.length<=1073741823):ScalOk UT 7 text (Gr.insB text):=by
 intro w hw;have HC:=Lib.hid (pinstant_any text hl w hw);have HB:Hid (Gr.insB text=decide ((Gr.insP text).2=0/\(Gr.insP text).1=text)):=Lib.hid rfl;obtain⟨r,hr⟩:∃r,Gr.insB text=r:=⟨_,rfl⟩
 rw[hr]at HB ⊢;obtain⟨⟨l,k⟩,hp⟩:∃p,Gr.insP text=p:=⟨_,rfl⟩
 rw[hp]at HC HB;obtain⟨ki,hki⟩:∃ki:Int,(k:Int)=ki:=⟨_,rfl⟩
 unfold RIPostP at HC;simp only[hki]at HC HB;have HK:=Lib.hid hki;clear hr hp hki hw;by_cases h0:ki=0
 ·subst h0;have h0b:((0:Int)==0)=true:=rfl;by_cases hs:l=text
  ·have hsb:(l==text)=true:=by rw[beq_iff_eq];exact hs
   have HF:Hid (r=true):=Lib.hid (by rw[HB.out];simp[hs];have:=HK.out;omega);clear hs;go_enter Tryz.func42,Tryz.ntmps42;go_wp2_with fail;refine HC.out.mono ?_;rintro e w1 ⟨rfl,hb1⟩;have HB1:=Lib.hid hb1;clear hb1;go_wp2_with fail;go_ret;rw[HF.out];exact⟨rfl,HB1.out⟩
  ·have hsb:(l==text)=false:=by rw[beq_eq_false_iff_ne];exact hs
   have HF:Hid (r=false):=Lib.hid (by rw[HB.out];simp[hs]);clear hs;go_enter Tryz.func42,Tryz.ntmps42;go_wp2_with fail;refine HC.out.mono ?_;rintro e w1 ⟨rfl,hb1⟩;have HB1:=Lib.hid hb1;clear hb1;go_wp2_with fail;go_ret;rw[HF.out];exact⟨rfl,HB1.out⟩
 ·have h0b:(ki==0)=false:=by simpa using h0
  have HF:Hid (r=false):=Lib.hid (by rw[HB.out];simp;intro e;exact absurd (by have:=HK.out;omega) h0);go_enter Tryz.func42,Tryz.ntmps42;go_wp2_with fail;refine HC.out.mono ?_;rintro e w1 ⟨rfl,hb1⟩;have HB1:=Lib.hid hb1;clear hb1;go_wp2_with fail;go_ret;rw[HF.out];exact⟨rfl,HB1.out⟩
end Go.Proofs.YtoigpackhninoaaGreatDoor

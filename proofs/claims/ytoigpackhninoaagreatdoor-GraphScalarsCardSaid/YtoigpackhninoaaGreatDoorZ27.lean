import Derived.Test.YtoigpackhninoaaGreatDoorZ13
namespace Go.Proofs.YtoigpackhninoaaGreatDoor
open Gr
open _root_.Go.Proofs.Tryz
open _root_.Go.Lib (hid)
set_option maxRecDepth 100000
set_option maxHeartbeats 16000000
open Go.RowKit
theorem zg5 (s:Gr.Str) (hl:s.length<=1073741823) (w:World) (hT:UT w):Calls prog 73 #[.string ⟨s.toArray⟩] w (zcn (insP s) w):=by
 have HT:=hid hT;clear hT;obtain⟨r,hr⟩:=ex (insP s)
 have HR:=hid hr;rw[hr];clear hr;have HIN:Hid (insP s=match Gr.rd s with|none=>([],3)|some x=>if x.z=0 then([],3)else if okR x=false then([],13)else osP (secs x) x.nanos):=hid rfl;cases hrd:Gr.rd s with
 |none=>
  have HF:Hid (r=([],3)):=hid (by rw[<-HR.out,HIN.out,hrd]);have HRD:=hid (fun W=>zg4 hl hrd W);clear hrd;go_enter func73,ntmps73;go_wp2_with fail;refine(HRD.out _).mono ?_;rintro e w1 ⟨hb1,sh,y,m,d,h,mi,c,zh,zm,n,z,rfl⟩;have HB1:=hid hb1;clear hb1;go_wp2;go_ret2;rw[HF.out];exact⟨rfl,HB1.out.alloc HB1.out.size _⟩
 |some x=>
  have hok:=znb hrd;have hmz:=mo_z hrd;have HRD0:=hid (fun W=>zei hl hrd W);have hrg:=zne hok;have HRG0:=hid (fun W=>zeg ((moSh x:Nat):Int) x.y x.m x.d x.h x.mi x.c x.zh x.zm (x.nanos:Int) ((x.z.toNat:Nat):Int) W);rw[hrg]at HRG0;obtain⟨sh,hsh⟩:=ex (moSh x)
  obtain⟨zz,hzz⟩:∃zz:Int,((x.z.toNat:Nat):Int)=zz:=⟨_,rfl⟩
  have HSC0:=fun(hv:Cal.vld x.y x.m x.d=true) (h1:(x.z=90/\x.zh=0/\x.zm=0)\/x.z=43\/x.z=45) W=>zg1 ((moSh x:Nat):Int) (x.y:Int) (x.m:Int) (x.d:Int) (x.h:Int) (x.mi:Int) (x.c:Int) (x.zh:Int) (x.zm:Int) (x.nanos:Int) ((x.z.toNat:Nat):Int) hv (by omega) (by have:=hok.h;omega) (by omega) (by have:=hok.mi;omega) (by omega) (by have:=hok.c;omega) (by omega) (by have:=hok.zh;omega) (by omega) (by have:=hok.zm;omega) W
  have HRD:=HRD0;have HRG:=HRG0;rw[hsh,hzz]at HRD HRG;clear HRD0 HRG0;have HZZ:=hid hzz;have HSH:=hid hsh;have HOK:=hid hok;have HMZ:=hid hmz;by_cases hz:x.z=0
  ·have HF:Hid (r=([],3)):=hid (by rw[<-HR.out,HIN.out,hrd];simp only;rw[if_pos hz]);obtain rfl:0=zz:=by rw[<-hzz,hz];rfl
   have hz0b:((0:Int)==0)=true:=rfl;clear hrd hok hmz hrg hsh hzz hz HSC0;go_enter func73,ntmps73;go_wp2_with fail;refine(HRD.out _).mono ?_;rintro e w1 ⟨rfl,hb1⟩;have HB1:=hid hb1;clear hb1;go_wp2;go_ret2;rw[HF.out];exact⟨rfl,HB1.out.alloc HB1.out.size _⟩
  ·have hzn:=u8_z hz;rw[hzz]at hzn;have hznb:(zz==0)=false:=by simpa using hzn
   have hz3:=hmz.1.resolve_left hz;have hdt:x.date=true/\x.time=true:=by
    rcases hok.sh with h|⟨_,_,h⟩|⟨_,_,h⟩
    ·exact h
    ·exact absurd h hz
    ·exact absurd h hz
   cases hr:okR x with
   |false=>
    have HF:Hid (r=([],13)):=hid (by rw[<-HR.out,HIN.out,hrd];simp only;rw[if_neg hz,if_pos hr]);rw[hr]at HRG;clear hrd hok hmz hrg hsh hzz hz hr HSC0 hdt hz3;go_enter func73,ntmps73;go_wp2_with fail;refine(HRD.out _).mono ?_;rintro e w1 ⟨rfl,hb1⟩;go_upto_region 2 with fail;obtain⟨gb,hgb⟩:=ex w1.heap.size
    obtain⟨w2,hw2⟩:∃w2,w2=w1.alloc (.cells #[.int .i64 (sh:Int),.int .i64 (x.y:Int),.int .i64 (x.m:Int),.int .i64 (x.d:Int),.int .i64 (x.h:Int),.int .i64 (x.mi:Int),.int .i64 (x.c:Int),.int .i64 (x.zh:Int),.int .i64 (x.zm:Int),.int .i64 (x.nanos:Int),.int .u8 zz] 135):=⟨_,rfl⟩
    have HB2:Hid (Blk w2 gb 135 #[.int .i64 (sh:Int),.int .i64 (x.y:Int),.int .i64 (x.m:Int),.int .i64 (x.d:Int),.int .i64 (x.h:Int),.int .i64 (x.mi:Int),.int .i64 (x.c:Int),.int .i64 (x.zh:Int),.int .i64 (x.zm:Int),.int .i64 (x.nanos:Int),.int .u8 zz]/\Below w.heap.size w w2/\UT w2):=hid (by
     have h2:Below w.heap.size w w2:=by rw[hw2];exact hb1.alloc hb1.size _
     exact⟨by rw[hw2,<-hgb];exact Blk.new _ _ _,h2,UT.stays _ _ HT.out h2⟩)
    (try rw[<-hw2]);(try rw[hgb]);clear hw2 hgb hb1;obtain⟨q0,q1,q2,q3,q4,q5,q6,q7,q8,q9,q10⟩:=zae HB2.out.1;go_wp2_with fail;refine(HRG.out _).mono ?_;rintro e w3 ⟨rfl,hb3⟩;have HB3:Hid (Blk w3 gb 135 #[.int .i64 (sh:Int),.int .i64 (x.y:Int),.int .i64 (x.m:Int),.int .i64 (x.d:Int),.int .i64 (x.h:Int),.int .i64 (x.mi:Int),.int .i64 (x.c:Int),.int .i64 (x.zh:Int),.int .i64 (x.zm:Int),.int .i64 (x.nanos:Int),.int .u8 zz]/\Below w.heap.size w w3/\UT w3):=hid ⟨HB2.out.1.below hb3 HB2.out.1.lt,HB2.out.2.1.trans (hb3.mono HB2.out.2.1.size),UT.stays _ _ HB2.out.2.2 hb3⟩;clear hb3 q0 q1 q2 q3 q4 q5 q6 q7 q8 q9 q10;go_wp2;go_ret2;rw[HF.out];exact⟨rfl,HB3.out.2.1⟩
   |true=>
    have HF:Hid (r=osP (secs x) x.nanos):=hid (by rw[<-HR.out,HIN.out,hrd];simp only;rw[if_neg hz,if_neg (by rw[hr];decide)]);rw[hr]at HRG;obtain⟨hv,hs0,hs1,_,_⟩:=znd hok hr hdt.1;have HSC:=hid (HSC0 hv hz3);rw[psecs hz3,hsh,hzz]at HSC;obtain⟨q,hq⟩:=ex (secs x)
    rw[hq]at HSC HF hs0 hs1;have HOS:=hid (fun W hW=>zf2 q x.nanos (x.nanos:Int) rfl hok.nanos (by omega) (by omega) W hW);unfold zcn at HOS ⊢;obtain⟨⟨R1,R2⟩,hR⟩:∃R,osP q x.nanos=R:=⟨_,rfl⟩
    rw[hR]at HOS HF;simp only at HOS;obtain⟨Ri,hRi⟩:∃Ri:Int,(R2:Int)=Ri:=⟨_,rfl⟩
    rw[hRi]at HOS;have HRI:=hid hRi;clear hrd hok hmz hrg hsh hzz hz hr HSC0 hdt hz3 hv hs0 hs1 hq hR hRi;go_enter func73,ntmps73;go_wp2_with fail;refine(HRD.out _).mono ?_;rintro e w1 ⟨rfl,hb1⟩;go_upto_region 2 with fail;obtain⟨gb,hgb⟩:=ex w1.heap.size
    obtain⟨w2,hw2⟩:∃w2,w2=w1.alloc (.cells #[.int .i64 (sh:Int),.int .i64 (x.y:Int),.int .i64 (x.m:Int),.int .i64 (x.d:Int),.int .i64 (x.h:Int),.int .i64 (x.mi:Int),.int .i64 (x.c:Int),.int .i64 (x.zh:Int),.int .i64 (x.zm:Int),.int .i64 (x.nanos:Int),.int .u8 zz] 135):=⟨_,rfl⟩
    have HB2:Hid (Blk w2 gb 135 #[.int .i64 (sh:Int),.int .i64 (x.y:Int),.int .i64 (x.m:Int),.int .i64 (x.d:Int),.int .i64 (x.h:Int),.int .i64 (x.mi:Int),.int .i64 (x.c:Int),.int .i64 (x.zh:Int),.int .i64 (x.zm:Int),.int .i64 (x.nanos:Int),.int .u8 zz]/\Below w.heap.size w w2/\UT w2):=hid (by
     have h2:Below w.heap.size w w2:=by rw[hw2];exact hb1.alloc hb1.size _
     exact⟨by rw[hw2,<-hgb];exact Blk.new _ _ _,h2,UT.stays _ _ HT.out h2⟩)
    (try rw[<-hw2]);(try rw[hgb]);clear hw2 hgb hb1;obtain⟨q0,q1,q2,q3,q4,q5,q6,q7,q8,q9,q10⟩:=zae HB2.out.1;go_wp2_with fail;refine(HRG.out _).mono ?_;rintro e w3 ⟨rfl,hb3⟩;have HB3:Hid (Blk w3 gb 135 #[.int .i64 (sh:Int),.int .i64 (x.y:Int),.int .i64 (x.m:Int),.int .i64 (x.d:Int),.int .i64 (x.h:Int),.int .i64 (x.mi:Int),.int .i64 (x.c:Int),.int .i64 (x.zh:Int),.int .i64 (x.zm:Int),.int .i64 (x.nanos:Int),.int .u8 zz]/\Below w.heap.size w w3/\UT w3):=hid ⟨HB2.out.1.below hb3 HB2.out.1.lt,HB2.out.2.1.trans (hb3.mono HB2.out.2.1.size),UT.stays _ _ HB2.out.2.2 hb3⟩;clear hb3 q0 q1 q2 q3 q4 q5 q6 q7 q8 q9 q10;go_upto_region 6 with fail;have p0:∀W:WB w3.heap.size w3,W.w.cell? ⟨gb,0,none⟩=some (.int .i64 (sh:Int)):=fun W=>(HB3.out.1.below W.h HB3.out.1.lt).cell 0
    have p1:∀W:WB w3.heap.size w3,W.w.cell? ⟨gb,1,none⟩=some (.int .i64 (x.y:Int)):=fun W=>(HB3.out.1.below W.h HB3.out.1.lt).cell 1
    have p2:∀W:WB w3.heap.size w3,W.w.cell? ⟨gb,2,none⟩=some (.int .i64 (x.m:Int)):=fun W=>(HB3.out.1.below W.h HB3.out.1.lt).cell 2
    have p3:∀W:WB w3.heap.size w3,W.w.cell? ⟨gb,3,none⟩=some (.int .i64 (x.d:Int)):=fun W=>(HB3.out.1.below W.h HB3.out.1.lt).cell 3
    have p4:∀W:WB w3.heap.size w3,W.w.cell? ⟨gb,4,none⟩=some (.int .i64 (x.h:Int)):=fun W=>(HB3.out.1.below W.h HB3.out.1.lt).cell 4
    have p5:∀W:WB w3.heap.size w3,W.w.cell? ⟨gb,5,none⟩=some (.int .i64 (x.mi:Int)):=fun W=>(HB3.out.1.below W.h HB3.out.1.lt).cell 5
    have p6:∀W:WB w3.heap.size w3,W.w.cell? ⟨gb,6,none⟩=some (.int .i64 (x.c:Int)):=fun W=>(HB3.out.1.below W.h HB3.out.1.lt).cell 6
    have p7:∀W:WB w3.heap.size w3,W.w.cell? ⟨gb,7,none⟩=some (.int .i64 (x.zh:Int)):=fun W=>(HB3.out.1.below W.h HB3.out.1.lt).cell 7
    have p8:∀W:WB w3.heap.size w3,W.w.cell? ⟨gb,8,none⟩=some (.int .i64 (x.zm:Int)):=fun W=>(HB3.out.1.below W.h HB3.out.1.lt).cell 8
    have p9:∀W:WB w3.heap.size w3,W.w.cell? ⟨gb,9,none⟩=some (.int .i64 (x.nanos:Int)):=fun W=>(HB3.out.1.below W.h HB3.out.1.lt).cell 9
    have p10:∀W:WB w3.heap.size w3,W.w.cell? ⟨gb,10,none⟩=some (.int .u8 zz):=fun W=>(HB3.out.1.below W.h HB3.out.1.lt).cell 10
    have HUT:Hid (∀W:WB w3.heap.size w3,UT W.w):=hid (fun W=>UT.stays _ _ HB3.out.2.2 W.h);refine zaa w3.heap.size w3 (by kernel_rfl) (by kernel_rfl) (Below.refl _ _) ?_
    iterate 9 (try go_big_quiet_step ((first| (with_reducible refine Calls.grow ((HSC.out _).mono (fun _ _ ⟨e1,e2⟩=>⟨e1,(WB.h _).trans (e2.mono (WB.h _).size)⟩)))| (with_reducible refine Calls.grow ((HOS.out _ (HUT.out _)).mono (fun _ _ ⟨e1,e2⟩=>⟨e1,(WB.h _).trans (e2.mono (WB.h _).size)⟩))))))
    refine wpQuiet_nil ?_;rintro _ ⟨wz,rfl⟩;clear p0 p1 p2 p3 p4 p5 p6 p7 p8 p9 p10;go_wp2;go_ret2;rw[HF.out];refine⟨?_,HB3.out.2.1.trans (wz.h.mono HB3.out.2.1.size)⟩;show _=Ending.returned (.tuple #[.string ⟨R1.toArray⟩,.int .i64 (R2:Int)]);rw[HRI.out];rfl
theorem znf {x:Gr.Mo} (h:MoOk x) (hn:x.time=false->x.nanos=0) (zz:Int) (W:World) (hW:UT W):
 Calls prog 128 #[.agg #[.int .i64 ((moSh x:Nat):Int),.int .i64 (x.y:Int),.int .i64 (x.m:Int),.int .i64 (x.d:Int),.int .i64 (x.h:Int),.int .i64 (x.mi:Int),.int .i64 (x.c:Int),.int .i64 (x.zh:Int),.int .i64 (x.zm:Int),.int .i64 (x.nanos:Int),.int .u8 zz]] W fun e w'=>e=.returned (.string ⟨(locS x).toArray⟩)/\Below W.heap.size W w':=by
 have a:=h.y;have b:=h.m;have c:=h.d;have d:=h.h;have e:=h.mi;have f:=h.c;have g:=h.nanos;rcases h.sh with⟨h1,h2⟩|⟨h1,h2,_⟩|⟨h1,h2,_⟩
 ·have:=zm6 x.y x.m x.d x.h x.mi x.c x.nanos (x.zh:Int) (x.zm:Int) zz (by omega) (by omega) (by omega) (by omega) (by omega) (by omega) g W hW;unfold locS moSh;rw[h1,h2];simpa using this
 ·have:=zr1 x.y x.m x.d x.h x.mi x.c x.nanos (x.zh:Int) (x.zm:Int) zz (by omega) (by omega) (by omega) (by omega) (by omega) (by omega) g (hn h2) W hW;unfold locS moSh;rw[h1,h2];simpa using this
 ·have:=zr2 x.y x.m x.d x.h x.mi x.c x.nanos (x.zh:Int) (x.zm:Int) zz (by omega) (by omega) (by omega) (by omega) (by omega) (by omega) g W hW;unfold locS moSh;rw[h1,h2];simpa using this
theorem zkk (s:Gr.Str) (hl:s.length<=1073741823) (w:World) (hT:UT w):Calls prog 96 #[.string ⟨s.toArray⟩] w (zcn (locP s) w):=by
 have HT:=hid hT;clear hT;obtain⟨r,hr⟩:=ex (locP s)
 have HR:=hid hr;rw[hr];clear hr;have HIN:Hid (locP s=match Gr.rd s with|none=>([],3)|some x=>if x.z≠0 then([],3)else if okR x=false then([],13)else(locS x,0)):=hid rfl;cases hrd:Gr.rd s with
 |none=>
  have HF:Hid (r=([],3)):=hid (by rw[<-HR.out,HIN.out,hrd]);have HRD:=hid (fun W=>zg4 hl hrd W);clear hrd;go_enter func96,ntmps96;go_wp2_with fail;refine(HRD.out _).mono ?_;rintro e w1 ⟨hb1,sh,y,m,d,h,mi,c,zh,zm,n,z,rfl⟩;have HB1:=hid hb1;clear hb1;go_wp2;go_ret2;rw[HF.out];exact⟨rfl,HB1.out.alloc HB1.out.size _⟩
 |some x=>
  have hok:=znb hrd;have hmz:=mo_z hrd;have HRD0:=hid (fun W=>zei hl hrd W);have hrg:=zne hok;have HRG0:=hid (fun W=>zeg ((moSh x:Nat):Int) x.y x.m x.d x.h x.mi x.c x.zh x.zm (x.nanos:Int) ((x.z.toNat:Nat):Int) W);rw[hrg]at HRG0;obtain⟨sh,hsh⟩:=ex (moSh x)
  obtain⟨zz,hzz⟩:∃zz:Int,((x.z.toNat:Nat):Int)=zz:=⟨_,rfl⟩
  have HTX:=hid (fun W hW=>znf hok hmz.2 zz W hW);rw[hsh]at HTX;obtain⟨tx,htx⟩:=ex (locS x)
  rw[htx]at HTX;have HTE:=hid htx;have HRD:=HRD0;have HRG:=HRG0;rw[hsh,hzz]at HRD HRG;clear HRD0 HRG0 htx;by_cases hz:x.z=0
  ·obtain rfl:0=zz:=by rw[<-hzz,hz];rfl
   have hz0b:((0:Int)==0)=true:=rfl;have hz0c:((0:Int) != 0)=false:=rfl;cases hr:okR x with
   |false=>
    have HF:Hid (r=([],13)):=hid (by rw[<-HR.out,HIN.out,hrd];simp only;rw[if_neg (by simp[hz]),if_pos hr]);rw[hr]at HRG;clear hrd hok hmz hrg hsh hzz hz hr;go_enter func96,ntmps96;go_wp2_with fail;refine(HRD.out _).mono ?_;rintro e w1 ⟨rfl,hb1⟩;go_upto_region 2 with fail;obtain⟨gb,hgb⟩:=ex w1.heap.size
    obtain⟨w2,hw2⟩:∃w2,w2=w1.alloc (.cells #[.int .i64 (sh:Int),.int .i64 (x.y:Int),.int .i64 (x.m:Int),.int .i64 (x.d:Int),.int .i64 (x.h:Int),.int .i64 (x.mi:Int),.int .i64 (x.c:Int),.int .i64 (x.zh:Int),.int .i64 (x.zm:Int),.int .i64 (x.nanos:Int),.int .u8 0] 135):=⟨_,rfl⟩
    have HB2:Hid (Blk w2 gb 135 #[.int .i64 (sh:Int),.int .i64 (x.y:Int),.int .i64 (x.m:Int),.int .i64 (x.d:Int),.int .i64 (x.h:Int),.int .i64 (x.mi:Int),.int .i64 (x.c:Int),.int .i64 (x.zh:Int),.int .i64 (x.zm:Int),.int .i64 (x.nanos:Int),.int .u8 0]/\Below w.heap.size w w2/\UT w2):=hid (by
     have h2:Below w.heap.size w w2:=by rw[hw2];exact hb1.alloc hb1.size _
     exact⟨by rw[hw2,<-hgb];exact Blk.new _ _ _,h2,UT.stays _ _ HT.out h2⟩)
    (try rw[<-hw2]);(try rw[hgb]);clear hw2 hgb hb1;obtain⟨q0,q1,q2,q3,q4,q5,q6,q7,q8,q9,q10⟩:=zae HB2.out.1;go_wp2_with fail;refine(HRG.out _).mono ?_;rintro e w3 ⟨rfl,hb3⟩;have HB3:Hid (Blk w3 gb 135 #[.int .i64 (sh:Int),.int .i64 (x.y:Int),.int .i64 (x.m:Int),.int .i64 (x.d:Int),.int .i64 (x.h:Int),.int .i64 (x.mi:Int),.int .i64 (x.c:Int),.int .i64 (x.zh:Int),.int .i64 (x.zm:Int),.int .i64 (x.nanos:Int),.int .u8 0]/\Below w.heap.size w w3/\UT w3):=hid ⟨HB2.out.1.below hb3 HB2.out.1.lt,HB2.out.2.1.trans (hb3.mono HB2.out.2.1.size),UT.stays _ _ HB2.out.2.2 hb3⟩;clear hb3 q0 q1 q2 q3 q4 q5 q6 q7 q8 q9 q10;go_wp2;go_ret2;rw[HF.out];exact⟨rfl,HB3.out.2.1⟩
   |true=>
    have HF:Hid (r=(tx,0)):=hid (by rw[<-HR.out,HIN.out,hrd];simp only;rw[if_neg (by simp[hz]),if_neg (by rw[hr];decide),HTE.out]);rw[hr]at HRG;clear hrd hok hmz hrg hsh hzz hz hr;go_enter func96,ntmps96;go_wp2_with fail;refine(HRD.out _).mono ?_;rintro e w1 ⟨rfl,hb1⟩;go_upto_region 2 with fail;obtain⟨gb,hgb⟩:=ex w1.heap.size
    obtain⟨w2,hw2⟩:∃w2,w2=w1.alloc (.cells #[.int .i64 (sh:Int),.int .i64 (x.y:Int),.int .i64 (x.m:Int),.int .i64 (x.d:Int),.int .i64 (x.h:Int),.int .i64 (x.mi:Int),.int .i64 (x.c:Int),.int .i64 (x.zh:Int),.int .i64 (x.zm:Int),.int .i64 (x.nanos:Int),.int .u8 0] 135):=⟨_,rfl⟩
    have HB2:Hid (Blk w2 gb 135 #[.int .i64 (sh:Int),.int .i64 (x.y:Int),.int .i64 (x.m:Int),.int .i64 (x.d:Int),.int .i64 (x.h:Int),.int .i64 (x.mi:Int),.int .i64 (x.c:Int),.int .i64 (x.zh:Int),.int .i64 (x.zm:Int),.int .i64 (x.nanos:Int),.int .u8 0]/\Below w.heap.size w w2/\UT w2):=hid (by
     have h2:Below w.heap.size w w2:=by rw[hw2];exact hb1.alloc hb1.size _
     exact⟨by rw[hw2,<-hgb];exact Blk.new _ _ _,h2,UT.stays _ _ HT.out h2⟩)
    (try rw[<-hw2]);(try rw[hgb]);clear hw2 hgb hb1;obtain⟨q0,q1,q2,q3,q4,q5,q6,q7,q8,q9,q10⟩:=zae HB2.out.1;go_wp2_with fail;refine(HRG.out _).mono ?_;rintro e w3 ⟨rfl,hb3⟩;have HB3:Hid (Blk w3 gb 135 #[.int .i64 (sh:Int),.int .i64 (x.y:Int),.int .i64 (x.m:Int),.int .i64 (x.d:Int),.int .i64 (x.h:Int),.int .i64 (x.mi:Int),.int .i64 (x.c:Int),.int .i64 (x.zh:Int),.int .i64 (x.zm:Int),.int .i64 (x.nanos:Int),.int .u8 0]/\Below w.heap.size w w3/\UT w3):=hid ⟨HB2.out.1.below hb3 HB2.out.1.lt,HB2.out.2.1.trans (hb3.mono HB2.out.2.1.size),UT.stays _ _ HB2.out.2.2 hb3⟩;clear hb3 q0 q1 q2 q3 q4 q5 q6 q7 q8 q9 q10;go_upto_region 6 with fail;obtain⟨q0,q1,q2,q3,q4,q5,q6,q7,q8,q9,q10⟩:=zae HB3.out.1;go_wp2_with fail;refine(HTX.out _ HB3.out.2.2).mono ?_;rintro e w4 ⟨rfl,hb4⟩;have HB4:Hid (Below w.heap.size w w4):=hid (HB3.out.2.1.trans (hb4.mono HB3.out.2.1.size));clear hb4;go_wp2;go_ret2;rw[HF.out];exact⟨rfl,HB4.out⟩
  ·have HF:Hid (r=([],3)):=hid (by rw[<-HR.out,HIN.out,hrd];simp only;rw[if_pos hz]);have hzn:=u8_z hz;rw[hzz]at hzn;have hznb:(zz==0)=false:=by simpa using hzn
   have hznc:(zz != 0)=true:=by simpa using hzn
   clear hrd hok hmz hrg hsh hzz hz;go_enter func96,ntmps96;go_wp2_with fail;refine(HRD.out _).mono ?_;rintro e w1 ⟨rfl,hb1⟩;have HB1:=hid hb1;clear hb1;go_wp2;go_ret2;rw[HF.out];exact⟨rfl,HB1.out.alloc HB1.out.size _⟩
end Go.Proofs.YtoigpackhninoaaGreatDoor

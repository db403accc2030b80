import Derived.Test.YtoigpackhninoaaGreatDoorGrInsP3F
import Derived.Test.YtoigpackhninoaaGreatDoorZ23
import Derived.Test.YtoigpackhninoaaGreatDoorZ25
import Derived.Test.YtoigpackhninoaaGreatDoorGrCheck
namespace Go.Proofs.YtoigpackhninoaaGreatDoor
open _root_.Go.Proofs.Tryz
set_option maxRecDepth 100000
set_option maxHeartbeats 16000000
open Go.RowKit
theorem ziw {w:World} {g:Nat} {t:TypeId} {cs:Array Value} (h:w.heap.size=g):Blk (w.alloc (.cells cs t)) g t cs:=by subst h;exact Blk.new _ _ _
theorem zll (s:Gr.Str) (hl:s.length<=1073741823) (w:World):Calls prog 92 #[.string ⟨s.toArray⟩] w (RPost (rdT s) w):=by
 go_enter func92,ntmps92;go_upto_region 4 with fail;obtain⟨w5,hw5⟩:=ex (((((w.alloc (.cells #[.string ⟨s.toArray⟩] 9)).alloc (.cells #[.int .i64 0,.int .i64 0,.int .i64 0,.int .i64 0,.int .i64 0,.int .i64 0,.int .i64 0,.int .i64 0,.int .i64 0,.int .i64 0,.int .u8 0] 135)).alloc (.cells #[.int .i64 0,.int .i64 0,.int .i64 0,.int .i64 0,.int .i64 0,.int .i64 0,.int .i64 0,.int .i64 0,.int .i64 0,.int .i64 0,.int .u8 0] 135)).alloc (.cells #[.int .i64 0] 3)).alloc (.cells #[.func (.func 124) #[] #[.pointer (some ⟨w.heap.size+1+1+1,0,none⟩),.pointer (some ⟨w.heap.size,0,none⟩)]] 170))
 have b0:Blk w5 (w.heap.size) 9 #[.string ⟨s.toArray⟩]:=by rw[<-hw5];exact((((ziw (by simp)).alloc _).alloc _).alloc _).alloc _
 have b1:Blk w5 (w.heap.size+1) 135 #[.int .i64 0,.int .i64 0,.int .i64 0,.int .i64 0,.int .i64 0,.int .i64 0,.int .i64 0,.int .i64 0,.int .i64 0,.int .i64 0,.int .u8 0]:=by rw[<-hw5];exact(((ziw (by simp)).alloc _).alloc _).alloc _
 have b2:Blk w5 (w.heap.size+1+1) 135 #[.int .i64 0,.int .i64 0,.int .i64 0,.int .i64 0,.int .i64 0,.int .i64 0,.int .i64 0,.int .i64 0,.int .i64 0,.int .i64 0,.int .u8 0]:=by rw[<-hw5];exact((ziw (by simp)).alloc _).alloc _
 have b3:Blk w5 (w.heap.size+1+1+1) 3 #[.int .i64 0]:=by rw[<-hw5];exact(ziw (by simp)).alloc _
 have b4:Blk w5 (w.heap.size+1+1+1+1) 170 #[.func (.func 124) #[] #[.pointer (some ⟨w.heap.size+1+1+1,0,none⟩),.pointer (some ⟨w.heap.size,0,none⟩)]]:=by rw[<-hw5];exact ziw (by simp)
 have l5:Below w.heap.size w w5:=by rw[<-hw5];exact(((((Below.refl _ _).alloc (Nat.le_refl _) _).alloc (by simp) _).alloc (by simp;omega) _).alloc (by simp;omega) _).alloc (by simp;omega) _
 have HM:Hid (RMem s w (w.heap.size) (w.heap.size+1) (w.heap.size+1+1) (w.heap.size+1+1+1) (w.heap.size+1+1+1+1) 0 (fun _=>0) 0 0 0 w5):=Lib.hid ⟨l5,by omega,by omega,by omega,by omega,b0,b1,b2,b3,b4⟩;(try rw[hw5]);clear hw5 b0 b1 b2 b3 b4 l5;go_cut [7] (fun s7 wx=>s7=.func (.func 125) #[] #[.pointer (some ⟨w.heap.size+1+1+1,0,none⟩),.pointer (some ⟨w.heap.size,0,none⟩),.pointer (some ⟨w.heap.size+1+1+1+1,0,none⟩)]/\wx=w5)
 case first=>
  go_wp2;go_meet;exact⟨rfl,rfl⟩
 case rest=>
 obtain⟨rfl,rfl⟩:=hcut;refine(‹∀(a:Act) (w_1:World),Code.wp prog _ _ a w_1->_›) _ _ ?_;exact zwa s hl w _ _ _ _ _ _ (rdT s) HM (Lib.hid rfl)
open Gr
theorem zwh {s:Gr.Str} {a:Nat} {z:Gr.Zn} (h:zoneAt s a=some z):(z.z=90/\z.h=0/\z.m=0)\/z.z=43\/z.z=45:=by
 unfold zoneAt at h;split at h
 ·grind
 ·split at h
  ·split at h
   ·rename_i hb;injection h with h
    subst h;right;simp only[Bool.and_eq_true,Bool.or_eq_true]at hb;show s.getD a 0=43\/s.getD a 0=45;rcases hb.1 with h1|h1
    ·unfold isAt at h1;have:=eq_of_beq h1;left;simp[List.getD_eq_getElem?_getD,this]
    ·unfold isAt at h1;have:=eq_of_beq h1;right;simp[List.getD_eq_getElem?_getD,this]
   ·cases h
  ·cases h
theorem mo_z {s:Gr.Str} {x:Gr.Mo} (h:Gr.rd s=some x):(x.z=0\/(x.z=90/\x.zh=0/\x.zm=0)\/x.z=43\/x.z=45)/\(x.time=false->x.nanos=0):=by
 unfold Gr.rd at h;split at h
 ·grind
 ·split at h
  ·grind
  ·split at h
   ·split at h
    ·cases h
    ·split at h
     ·grind
     ·split at h
      ·rename_i z hz;split at h
       ·injection h with h;subst h;exact⟨.inr (zwh hz),fun e=>by cases e⟩
       ·cases h
      ·cases h
   ·cases h
theorem zx9 {x:Gr.Mo} (h:MoOk x):decide (((moSh x:Nat):Int)=2)=!x.date:=by
 unfold moSh;rcases h.sh with⟨h1,h2⟩|⟨h1,h2,_⟩|⟨h1,h2,_⟩<;>rw[h1,h2]<;>decide
theorem zqw {x:Gr.Mo} (h:MoOk x):prngB ((moSh x:Nat):Int) x.y x.m x.d x.h x.mi x.c x.zh x.zm=okR x:=by
 unfold prngB okR;rw[zx9 h]
theorem psecs {x:Gr.Mo} (hz:(x.z=90/\x.zh=0/\x.zm=0)\/x.z=43\/x.z=45):
 (if((x.z.toNat:Nat):Int)=43 then Cal.num x.y x.m x.d*86400+(x.h:Int)*3600+(x.mi:Int)*60+(x.c:Int)-((x.zh:Int)*3600+(x.zm:Int)*60)else Cal.num x.y x.m x.d*86400+(x.h:Int)*3600+(x.mi:Int)*60+(x.c:Int)+((x.zh:Int)*3600+(x.zm:Int)*60))=secs x:=by
 unfold secs offS;rcases hz with⟨h,h1,h2⟩|h|h
 ·omega
 ·rw[h,if_pos (by decide),if_neg (by decide)];omega
 ·rw[h,if_neg (by decide),if_pos rfl];omega
theorem u8_z {z:UInt8} (h:z≠0):((z.toNat:Nat):Int)≠0:=by
 intro e;apply h;apply UInt8.toNat_inj.1;simpa using e
theorem zi0 {s:Gr.Str} (hl:s.length<=1073741823) (h:Gr.rd s=none) (w:World):Calls Tryz.prog 92 #[.string ⟨s.toArray⟩] w fun e w'=>Below w.heap.size w w'/\∃(sh y m d h mi c zh zm n z:Nat),e=.returned (.tuple #[.agg #[.int .i64 (sh:Int),.int .i64 (y:Int),.int .i64 (m:Int),.int .i64 (d:Int),.int .i64 (h:Int),.int .i64 (mi:Int),.int .i64 (c:Int),.int .i64 (zh:Int),.int .i64 (zm:Int),.int .i64 (n:Int),.int .u8 (z:Int)],.bool false]):=by
 refine(zll s hl w).mono ?_;rintro e w' ⟨hb,sh,f,nn,z,he,_⟩;refine⟨hb,sh,f 0,f 1,f 2,f 3,f 4,f 5,f 6,f 7,nn,z,?_⟩;rw[he];unfold rdT;rw[h];rfl
theorem zfk {s:Gr.Str} {x:Gr.Mo} (hl:s.length<=1073741823) (h:Gr.rd s=some x) (w:World):Calls Tryz.prog 92 #[.string ⟨s.toArray⟩] w fun e w'=>e=.returned (.tuple #[.agg #[.int .i64 ((moSh x:Nat):Int),.int .i64 (x.y:Int),.int .i64 (x.m:Int),.int .i64 (x.d:Int),.int .i64 (x.h:Int),.int .i64 (x.mi:Int),.int .i64 (x.c:Int),.int .i64 (x.zh:Int),.int .i64 (x.zm:Int),.int .i64 (x.nanos:Int),.int .u8 ((x.z.toNat:Nat):Int)],.bool true])/\Below w.heap.size w w':=by
 refine(zll s hl w).mono ?_;rintro e w' ⟨hb,sh,f,nn,z,he,hx⟩;refine⟨?_,hb⟩;have e1:rdT s=some (moC x):=by unfold rdT;rw[h];rfl
 have e2:=hx _ e1;rw[he,e1,<-e2];rfl
open _root_.Go.Lib (hid)
theorem zi1 (s:Gr.Str) (hl:s.length<=1073741823) (w:World) (hT:UT w):Calls prog 73 #[.string ⟨s.toArray⟩] w (zdc (insP s) w):=by
 have HT:=hid hT;clear hT;obtain⟨r,hr⟩:=ex (insP s)
 have HR:=hid hr;rw[hr];clear hr;have HIN:Hid (insP s=match Gr.rd s with|none=>([],3)|some x=>if x.z=0 then([],3)else if okR x=false then([],13)else osP (secs x) x.nanos):=hid rfl;cases hrd:Gr.rd s with
 |none=>
  have HF:Hid (r=([],3)):=hid (by rw[<-HR.out,HIN.out,hrd]);have HRD:=hid (fun W=>zi0 hl hrd W);clear hrd;go_enter func73,ntmps73;go_wp2_with fail;refine(HRD.out _).mono ?_;rintro e w1 ⟨hb1,sh,y,m,d,h,mi,c,zh,zm,n,z,rfl⟩;have HB1:=hid hb1;clear hb1;go_wp2;go_ret2;rw[HF.out];exact⟨rfl,HB1.out.alloc HB1.out.size _⟩
 |some x=>
  have hok:=zqt hrd;have hmz:=mo_z hrd;have HRD0:=hid (fun W=>zfk hl hrd W);have hrg:=zqw hok;have HRG0:=hid (fun W=>zfi ((moSh x:Nat):Int) x.y x.m x.d x.h x.mi x.c x.zh x.zm (x.nanos:Int) ((x.z.toNat:Nat):Int) W);rw[hrg]at HRG0;obtain⟨sh,hsh⟩:=ex (moSh x)
  obtain⟨zz,hzz⟩:∃zz:Int,((x.z.toNat:Nat):Int)=zz:=⟨_,rfl⟩
  have HSC0:=fun(hv:Cal.vld x.y x.m x.d=true) (h1:(x.z=90/\x.zh=0/\x.zm=0)\/x.z=43\/x.z=45) W=>zix ((moSh x:Nat):Int) (x.y:Int) (x.m:Int) (x.d:Int) (x.h:Int) (x.mi:Int) (x.c:Int) (x.zh:Int) (x.zm:Int) (x.nanos:Int) ((x.z.toNat:Nat):Int) hv (by omega) (by have:=hok.h;omega) (by omega) (by have:=hok.mi;omega) (by omega) (by have:=hok.c;omega) (by omega) (by have:=hok.zh;omega) (by omega) (by have:=hok.zm;omega) W
  have HRD:=HRD0;have HRG:=HRG0;rw[hsh,hzz]at HRD HRG;clear HRD0 HRG0;have HZZ:=hid hzz;have HSH:=hid hsh;have HOK:=hid hok;have HMZ:=hid hmz;by_cases hz:x.z=0
  ·have HF:Hid (r=([],3)):=hid (by rw[<-HR.out,HIN.out,hrd];simp only;rw[if_pos hz]);obtain rfl:0=zz:=by rw[<-hzz,hz];rfl
   have hz0b:((0:Int)==0)=true:=rfl;clear hrd hok hmz hrg hsh hzz hz HSC0;go_enter func73,ntmps73;go_wp2_with fail;refine(HRD.out _).mono ?_;rintro e w1 ⟨rfl,hb1⟩;have HB1:=hid hb1;clear hb1;go_wp2;go_ret2;rw[HF.out];exact⟨rfl,HB1.out.alloc HB1.out.size _⟩
  ·have hzn:=u8_z hz;rw[hzz]at hzn;have hznb:(zz==0)=false:=by simpa using hzn
   have hz3:=hmz.1.resolve_left hz;have hdt:x.date=true/\x.time=true:=by
    rcases hok.sh with h|⟨_,_,h⟩|⟨_,_,h⟩
    ·exact h
    ·exact absurd h hz
    ·exact absurd h hz
   cases hr:okR x with
   |false=>
    have HF:Hid (r=([],13)):=hid (by rw[<-HR.out,HIN.out,hrd];simp only;rw[if_neg hz,if_pos hr]);rw[hr]at HRG;clear hrd hok hmz hrg hsh hzz hz hr HSC0 hdt hz3;go_enter func73,ntmps73;go_wp2_with fail;refine(HRD.out _).mono ?_;rintro e w1 ⟨rfl,hb1⟩;go_upto_region 2 with fail;obtain⟨gb,hgb⟩:=ex w1.heap.size
    obtain⟨w2,hw2⟩:∃w2,w2=w1.alloc (.cells #[.int .i64 (sh:Int),.int .i64 (x.y:Int),.int .i64 (x.m:Int),.int .i64 (x.d:Int),.int .i64 (x.h:Int),.int .i64 (x.mi:Int),.int .i64 (x.c:Int),.int .i64 (x.zh:Int),.int .i64 (x.zm:Int),.int .i64 (x.nanos:Int),.int .u8 zz] 135):=⟨_,rfl⟩
    have HB2:Hid (Blk w2 gb 135 #[.int .i64 (sh:Int),.int .i64 (x.y:Int),.int .i64 (x.m:Int),.int .i64 (x.d:Int),.int .i64 (x.h:Int),.int .i64 (x.mi:Int),.int .i64 (x.c:Int),.int .i64 (x.zh:Int),.int .i64 (x.zm:Int),.int .i64 (x.nanos:Int),.int .u8 zz]/\Below w.heap.size w w2/\UT w2):=hid (by
     have h2:Below w.heap.size w w2:=by rw[hw2];exact hb1.alloc hb1.size _
     exact⟨by rw[hw2,<-hgb];exact Blk.new _ _ _,h2,UT.stays _ _ HT.out h2⟩)
    (try rw[<-hw2]);(try rw[hgb]);clear hw2 hgb hb1;obtain⟨q0,q1,q2,q3,q4,q5,q6,q7,q8,q9,q10⟩:=zaf HB2.out.1;go_wp2_with fail;refine(HRG.out _).mono ?_;rintro e w3 ⟨rfl,hb3⟩;have HB3:Hid (Blk w3 gb 135 #[.int .i64 (sh:Int),.int .i64 (x.y:Int),.int .i64 (x.m:Int),.int .i64 (x.d:Int),.int .i64 (x.h:Int),.int .i64 (x.mi:Int),.int .i64 (x.c:Int),.int .i64 (x.zh:Int),.int .i64 (x.zm:Int),.int .i64 (x.nanos:Int),.int .u8 zz]/\Below w.heap.size w w3/\UT w3):=hid ⟨HB2.out.1.below hb3 HB2.out.1.lt,HB2.out.2.1.trans (hb3.mono HB2.out.2.1.size),UT.stays _ _ HB2.out.2.2 hb3⟩;clear hb3 q0 q1 q2 q3 q4 q5 q6 q7 q8 q9 q10;go_wp2;go_ret2;rw[HF.out];exact⟨rfl,HB3.out.2.1⟩
   |true=>
    have HF:Hid (r=osP (secs x) x.nanos):=hid (by rw[<-HR.out,HIN.out,hrd];simp only;rw[if_neg hz,if_neg (by rw[hr];decide)]);rw[hr]at HRG;obtain⟨hv,hs0,hs1,_,_⟩:=zqv hok hr hdt.1;have HSC:=hid (HSC0 hv hz3);rw[psecs hz3,hsh,hzz]at HSC;obtain⟨q,hq⟩:=ex (secs x)
    rw[hq]at HSC HF hs0 hs1;have HOS:=hid (fun W hW=>zhm q x.nanos (x.nanos:Int) rfl hok.nanos (by omega) (by omega) W hW);unfold zdc at HOS ⊢;obtain⟨⟨R1,R2⟩,hR⟩:∃R,osP q x.nanos=R:=⟨_,rfl⟩
    rw[hR]at HOS HF;simp only at HOS;obtain⟨Ri,hRi⟩:∃Ri:Int,(R2:Int)=Ri:=⟨_,rfl⟩
    rw[hRi]at HOS;have HRI:=hid hRi;clear hrd hok hmz hrg hsh hzz hz hr HSC0 hdt hz3 hv hs0 hs1 hq hR hRi;go_enter func73,ntmps73;go_wp2_with fail;refine(HRD.out _).mono ?_;rintro e w1 ⟨rfl,hb1⟩;go_upto_region 2 with fail;obtain⟨gb,hgb⟩:=ex w1.heap.size
    obtain⟨w2,hw2⟩:∃w2,w2=w1.alloc (.cells #[.int .i64 (sh:Int),.int .i64 (x.y:Int),.int .i64 (x.m:Int),.int .i64 (x.d:Int),.int .i64 (x.h:Int),.int .i64 (x.mi:Int),.int .i64 (x.c:Int),.int .i64 (x.zh:Int),.int .i64 (x.zm:Int),.int .i64 (x.nanos:Int),.int .u8 zz] 135):=⟨_,rfl⟩
    have HB2:Hid (Blk w2 gb 135 #[.int .i64 (sh:Int),.int .i64 (x.y:Int),.int .i64 (x.m:Int),.int .i64 (x.d:Int),.int .i64 (x.h:Int),.int .i64 (x.mi:Int),.int .i64 (x.c:Int),.int .i64 (x.zh:Int),.int .i64 (x.zm:Int),.int .i64 (x.nanos:Int),.int .u8 zz]/\Below w.heap.size w w2/\UT w2):=hid (by
     have h2:Below w.heap.size w w2:=by rw[hw2];exact hb1.alloc hb1.size _
     exact⟨by rw[hw2,<-hgb];exact Blk.new _ _ _,h2,UT.stays _ _ HT.out h2⟩)
    (try rw[<-hw2]);(try rw[hgb]);clear hw2 hgb hb1;obtain⟨q0,q1,q2,q3,q4,q5,q6,q7,q8,q9,q10⟩:=zaf HB2.out.1;go_wp2_with fail;refine(HRG.out _).mono ?_;rintro e w3 ⟨rfl,hb3⟩;have HB3:Hid (Blk w3 gb 135 #[.int .i64 (sh:Int),.int .i64 (x.y:Int),.int .i64 (x.m:Int),.int .i64 (x.d:Int),.int .i64 (x.h:Int),.int .i64 (x.mi:Int),.int .i64 (x.c:Int),.int .i64 (x.zh:Int),.int .i64 (x.zm:Int),.int .i64 (x.nanos:Int),.int .u8 zz]/\Below w.heap.size w w3/\UT w3):=hid ⟨HB2.out.1.below hb3 HB2.out.1.lt,HB2.out.2.1.trans (hb3.mono HB2.out.2.1.size),UT.stays _ _ HB2.out.2.2 hb3⟩;clear hb3 q0 q1 q2 q3 q4 q5 q6 q7 q8 q9 q10;go_upto_region 6 with fail;have p0:∀W:WB w3.heap.size w3,W.w.cell? ⟨gb,0,none⟩=some (.int .i64 (sh:Int)):=fun W=>(HB3.out.1.below W.h HB3.out.1.lt).cell 0
    have p1:∀W:WB w3.heap.size w3,W.w.cell? ⟨gb,1,none⟩=some (.int .i64 (x.y:Int)):=fun W=>(HB3.out.1.below W.h HB3.out.1.lt).cell 1
    have p2:∀W:WB w3.heap.size w3,W.w.cell? ⟨gb,2,none⟩=some (.int .i64 (x.m:Int)):=fun W=>(HB3.out.1.below W.h HB3.out.1.lt).cell 2
    have p3:∀W:WB w3.heap.size w3,W.w.cell? ⟨gb,3,none⟩=some (.int .i64 (x.d:Int)):=fun W=>(HB3.out.1.below W.h HB3.out.1.lt).cell 3
    have p4:∀W:WB w3.heap.size w3,W.w.cell? ⟨gb,4,none⟩=some (.int .i64 (x.h:Int)):=fun W=>(HB3.out.1.below W.h HB3.out.1.lt).cell 4
    have p5:∀W:WB w3.heap.size w3,W.w.cell? ⟨gb,5,none⟩=some (.int .i64 (x.mi:Int)):=fun W=>(HB3.out.1.below W.h HB3.out.1.lt).cell 5
    have p6:∀W:WB w3.heap.size w3,W.w.cell? ⟨gb,6,none⟩=some (.int .i64 (x.c:Int)):=fun W=>(HB3.out.1.below W.h HB3.out.1.lt).cell 6
    have p7:∀W:WB w3.heap.size w3,W.w.cell? ⟨gb,7,none⟩=some (.int .i64 (x.zh:Int)):=fun W=>(HB3.out.1.below W.h HB3.out.1.lt).cell 7
    have p8:∀W:WB w3.heap.size w3,W.w.cell? ⟨gb,8,none⟩=some (.int .i64 (x.zm:Int)):=fun W=>(HB3.out.1.below W.h HB3.out.1.lt).cell 8
    have p9:∀W:WB w3.heap.size w3,W.w.cell? ⟨gb,9,none⟩=some (.int .i64 (x.nanos:Int)):=fun W=>(HB3.out.1.below W.h HB3.out.1.lt).cell 9
    have p10:∀W:WB w3.heap.size w3,W.w.cell? ⟨gb,10,none⟩=some (.int .u8 zz):=fun W=>(HB3.out.1.below W.h HB3.out.1.lt).cell 10
    have HUT:Hid (∀W:WB w3.heap.size w3,UT W.w):=hid (fun W=>UT.stays _ _ HB3.out.2.2 W.h);refine zaa w3.heap.size w3 (by kernel_rfl) (by kernel_rfl) (Below.refl _ _) ?_
    iterate 9 (try go_big_quiet_step ((first| (with_reducible refine Calls.grow ((HSC.out _).mono (fun _ _ ⟨e1,e2⟩=>⟨e1,(WB.h _).trans (e2.mono (WB.h _).size)⟩)))| (with_reducible refine Calls.grow ((HOS.out _ (HUT.out _)).mono (fun _ _ ⟨e1,e2⟩=>⟨e1,(WB.h _).trans (e2.mono (WB.h _).size)⟩))))))
    refine wpQuiet_nil ?_;rintro _ ⟨wz,rfl⟩;clear p0 p1 p2 p3 p4 p5 p6 p7 p8 p9 p10;go_wp2;go_ret2;rw[HF.out];refine⟨?_,HB3.out.2.1.trans (wz.h.mono HB3.out.2.1.size)⟩;show _=Ending.returned (.tuple #[.string ⟨R1.toArray⟩,.int .i64 (R2:Int)]);rw[HRI.out];rfl
theorem zqx {x:Gr.Mo} (h:MoOk x) (hn:x.time=false->x.nanos=0) (zz:Int) (W:World) (hW:UT W):
 Calls prog 128 #[.agg #[.int .i64 ((moSh x:Nat):Int),.int .i64 (x.y:Int),.int .i64 (x.m:Int),.int .i64 (x.d:Int),.int .i64 (x.h:Int),.int .i64 (x.mi:Int),.int .i64 (x.c:Int),.int .i64 (x.zh:Int),.int .i64 (x.zm:Int),.int .i64 (x.nanos:Int),.int .u8 zz]] W fun e w'=>e=.returned (.string ⟨(locS x).toArray⟩)/\Below W.heap.size W w':=by
 have a:=h.y;have b:=h.m;have c:=h.d;have d:=h.h;have e:=h.mi;have f:=h.c;have g:=h.nanos;rcases h.sh with⟨h1,h2⟩|⟨h1,h2,_⟩|⟨h1,h2,_⟩
 ·have:=zqo x.y x.m x.d x.h x.mi x.c x.nanos (x.zh:Int) (x.zm:Int) zz (by omega) (by omega) (by omega) (by omega) (by omega) (by omega) g W hW;unfold locS moSh;rw[h1,h2];simpa using this
 ·have:=zwc x.y x.m x.d x.h x.mi x.c x.nanos (x.zh:Int) (x.zm:Int) zz (by omega) (by omega) (by omega) (by omega) (by omega) (by omega) g (hn h2) W hW;unfold locS moSh;rw[h1,h2];simpa using this
 ·have:=zwd x.y x.m x.d x.h x.mi x.c x.nanos (x.zh:Int) (x.zm:Int) zz (by omega) (by omega) (by omega) (by omega) (by omega) (by omega) g W hW;unfold locS moSh;rw[h1,h2];simpa using this
theorem zna (s:Gr.Str) (hl:s.length<=1073741823) (w:World) (hT:UT w):Calls prog 96 #[.string ⟨s.toArray⟩] w (zdc (locP s) w):=by
 have HT:=hid hT;clear hT;obtain⟨r,hr⟩:=ex (locP s)
 have HR:=hid hr;rw[hr];clear hr;have HIN:Hid (locP s=match Gr.rd s with|none=>([],3)|some x=>if x.z≠0 then([],3)else if okR x=false then([],13)else(locS x,0)):=hid rfl;cases hrd:Gr.rd s with
 |none=>
  have HF:Hid (r=([],3)):=hid (by rw[<-HR.out,HIN.out,hrd]);have HRD:=hid (fun W=>zi0 hl hrd W);clear hrd;go_enter func96,ntmps96;go_wp2_with fail;refine(HRD.out _).mono ?_;rintro e w1 ⟨hb1,sh,y,m,d,h,mi,c,zh,zm,n,z,rfl⟩;have HB1:=hid hb1;clear hb1;go_wp2;go_ret2;rw[HF.out];exact⟨rfl,HB1.out.alloc HB1.out.size _⟩
 |some x=>
  have hok:=zqt hrd;have hmz:=mo_z hrd;have HRD0:=hid (fun W=>zfk hl hrd W);have hrg:=zqw hok;have HRG0:=hid (fun W=>zfi ((moSh x:Nat):Int) x.y x.m x.d x.h x.mi x.c x.zh x.zm (x.nanos:Int) ((x.z.toNat:Nat):Int) W);rw[hrg]at HRG0;obtain⟨sh,hsh⟩:=ex (moSh x)
  obtain⟨zz,hzz⟩:∃zz:Int,((x.z.toNat:Nat):Int)=zz:=⟨_,rfl⟩
  have HTX:=hid (fun W hW=>zqx hok hmz.2 zz W hW);rw[hsh]at HTX;obtain⟨tx,htx⟩:=ex (locS x)
  rw[htx]at HTX;have HTE:=hid htx;have HRD:=HRD0;have HRG:=HRG0;rw[hsh,hzz]at HRD HRG;clear HRD0 HRG0 htx;by_cases hz:x.z=0
  ·obtain rfl:0=zz:=by rw[<-hzz,hz];rfl
   have hz0b:((0:Int)==0)=true:=rfl;have hz0c:((0:Int) != 0)=false:=rfl;cases hr:okR x with
   |false=>
    have HF:Hid (r=([],13)):=hid (by rw[<-HR.out,HIN.out,hrd];simp only;rw[if_neg (by simp[hz]),if_pos hr]);rw[hr]at HRG;clear hrd hok hmz hrg hsh hzz hz hr;go_enter func96,ntmps96;go_wp2_with fail;refine(HRD.out _).mono ?_;rintro e w1 ⟨rfl,hb1⟩;go_upto_region 2 with fail;obtain⟨gb,hgb⟩:=ex w1.heap.size
    obtain⟨w2,hw2⟩:∃w2,w2=w1.alloc (.cells #[.int .i64 (sh:Int),.int .i64 (x.y:Int),.int .i64 (x.m:Int),.int .i64 (x.d:Int),.int .i64 (x.h:Int),.int .i64 (x.mi:Int),.int .i64 (x.c:Int),.int .i64 (x.zh:Int),.int .i64 (x.zm:Int),.int .i64 (x.nanos:Int),.int .u8 0] 135):=⟨_,rfl⟩
    have HB2:Hid (Blk w2 gb 135 #[.int .i64 (sh:Int),.int .i64 (x.y:Int),.int .i64 (x.m:Int),.int .i64 (x.d:Int),.int .i64 (x.h:Int),.int .i64 (x.mi:Int),.int .i64 (x.c:Int),.int .i64 (x.zh:Int),.int .i64 (x.zm:Int),.int .i64 (x.nanos:Int),.int .u8 0]/\Below w.heap.size w w2/\UT w2):=hid (by
     have h2:Below w.heap.size w w2:=by rw[hw2];exact hb1.alloc hb1.size _
     exact⟨by rw[hw2,<-hgb];exact Blk.new _ _ _,h2,UT.stays _ _ HT.out h2⟩)
    (try rw[<-hw2]);(try rw[hgb]);clear hw2 hgb hb1;obtain⟨q0,q1,q2,q3,q4,q5,q6,q7,q8,q9,q10⟩:=zaf HB2.out.1;go_wp2_with fail;refine(HRG.out _).mono ?_;rintro e w3 ⟨rfl,hb3⟩;have HB3:Hid (Blk w3 gb 135 #[.int .i64 (sh:Int),.int .i64 (x.y:Int),.int .i64 (x.m:Int),.int .i64 (x.d:Int),.int .i64 (x.h:Int),.int .i64 (x.mi:Int),.int .i64 (x.c:Int),.int .i64 (x.zh:Int),.int .i64 (x.zm:Int),.int .i64 (x.nanos:Int),.int .u8 0]/\Below w.heap.size w w3/\UT w3):=hid ⟨HB2.out.1.below hb3 HB2.out.1.lt,HB2.out.2.1.trans (hb3.mono HB2.out.2.1.size),UT.stays _ _ HB2.out.2.2 hb3⟩;clear hb3 q0 q1 q2 q3 q4 q5 q6 q7 q8 q9 q10;go_wp2;go_ret2;rw[HF.out];exact⟨rfl,HB3.out.2.1⟩
   |true=>
    have HF:Hid (r=(tx,0)):=hid (by rw[<-HR.out,HIN.out,hrd];simp only;rw[if_neg (by simp[hz]),if_neg (by rw[hr];decide),HTE.out]);rw[hr]at HRG;clear hrd hok hmz hrg hsh hzz hz hr;go_enter func96,ntmps96;go_wp2_with fail;refine(HRD.out _).mono ?_;rintro e w1 ⟨rfl,hb1⟩;go_upto_region 2 with fail;obtain⟨gb,hgb⟩:=ex w1.heap.size
    obtain⟨w2,hw2⟩:∃w2,w2=w1.alloc (.cells #[.int .i64 (sh:Int),.int .i64 (x.y:Int),.int .i64 (x.m:Int),.int .i64 (x.d:Int),.int .i64 (x.h:Int),.int .i64 (x.mi:Int),.int .i64 (x.c:Int),.int .i64 (x.zh:Int),.int .i64 (x.zm:Int),.int .i64 (x.nanos:Int),.int .u8 0] 135):=⟨_,rfl⟩
    have HB2:Hid (Blk w2 gb 135 #[.int .i64 (sh:Int),.int .i64 (x.y:Int),.int .i64 (x.m:Int),.int .i64 (x.d:Int),.int .i64 (x.h:Int),.int .i64 (x.mi:Int),.int .i64 (x.c:Int),.int .i64 (x.zh:Int),.int .i64 (x.zm:Int),.int .i64 (x.nanos:Int),.int .u8 0]/\Below w.heap.size w w2/\UT w2):=hid (by
     have h2:Below w.heap.size w w2:=by rw[hw2];exact hb1.alloc hb1.size _
     exact⟨by rw[hw2,<-hgb];exact Blk.new _ _ _,h2,UT.stays _ _ HT.out h2⟩)
    (try rw[<-hw2]);(try rw[hgb]);clear hw2 hgb hb1;obtain⟨q0,q1,q2,q3,q4,q5,q6,q7,q8,q9,q10⟩:=zaf HB2.out.1;go_wp2_with fail;refine(HRG.out _).mono ?_;rintro e w3 ⟨rfl,hb3⟩;have HB3:Hid (Blk w3 gb 135 #[.int .i64 (sh:Int),.int .i64 (x.y:Int),.int .i64 (x.m:Int),.int .i64 (x.d:Int),.int .i64 (x.h:Int),.int .i64 (x.mi:Int),.int .i64 (x.c:Int),.int .i64 (x.zh:Int),.int .i64 (x.zm:Int),.int .i64 (x.nanos:Int),.int .u8 0]/\Below w.heap.size w w3/\UT w3):=hid ⟨HB2.out.1.below hb3 HB2.out.1.lt,HB2.out.2.1.trans (hb3.mono HB2.out.2.1.size),UT.stays _ _ HB2.out.2.2 hb3⟩;clear hb3 q0 q1 q2 q3 q4 q5 q6 q7 q8 q9 q10;go_upto_region 6 with fail;obtain⟨q0,q1,q2,q3,q4,q5,q6,q7,q8,q9,q10⟩:=zaf HB3.out.1;go_wp2_with fail;refine(HTX.out _ HB3.out.2.2).mono ?_;rintro e w4 ⟨rfl,hb4⟩;have HB4:Hid (Below w.heap.size w w4):=hid (HB3.out.2.1.trans (hb4.mono HB3.out.2.1.size));clear hb4;go_wp2;go_ret2;rw[HF.out];exact⟨rfl,HB4.out⟩
  ·have HF:Hid (r=([],3)):=hid (by rw[<-HR.out,HIN.out,hrd];simp only;rw[if_pos hz]);have hzn:=u8_z hz;rw[hzz]at hzn;have hznb:(zz==0)=false:=by simpa using hzn
   have hznc:(zz != 0)=true:=by simpa using hzn
   clear hrd hok hmz hrg hsh hzz hz;go_enter func96,ntmps96;go_wp2_with fail;refine(HRD.out _).mono ?_;rintro e w1 ⟨rfl,hb1⟩;have HB1:=hid hb1;clear hb1;go_wp2;go_ret2;rw[HF.out];exact⟨rfl,HB1.out.alloc HB1.out.size _⟩
theorem zqy {s:Gr.Str} (h:Gr.rd s=none):(locP s).2=3:=by unfold locP;rw[h]
theorem zya {x:Gr.Mo} (h:MoOk x):1<=moSh x:=by
 unfold moSh;rcases h.sh with⟨h1,h2⟩|⟨h1,h2,_⟩|⟨h1,h2,_⟩<;>rw[h1,h2]<;>decide
theorem znb (s:Gr.Str) (hl:s.length<=1073741823) (w:World) (hT:UT w):
 Calls prog 74 #[.string ⟨s.toArray⟩] w fun e w'=>(∃n:Int,e=.returned (.int .i64 n)/\(n != 0)=locB s)/\Below w.heap.size w w':=by
 have HC:=hid (zna s hl w hT);have HB:Hid (locB s=decide ((locP s).2=0/\(locP s).1=s)):=hid rfl;obtain⟨r,hr⟩:=ex (locB s)
 rw[hr]at HB ⊢;have HN:=hid (fun h=>zqy (s:=s) h);have HRS:=hid (fun x (h:Gr.rd s=some x)=>And.intro (fun W=>zfk hl h W) (zqt h));obtain⟨⟨l,k⟩,hp⟩:∃p,locP s=p:=⟨_,rfl⟩
 rw[hp]at HC HB HN;obtain⟨ki,hki⟩:∃ki:Int,(k:Int)=ki:=⟨_,rfl⟩
 unfold zdc at HC;simp only[hki]at HC HB;have HK:=hid hki;clear hr hp hki hT;by_cases h0:ki=0
 ·subst h0;have h0b:((0:Int)==0)=true:=rfl;have h0c:((0:Int) != 0)=false:=rfl;by_cases hs:l=s
  ·have hsb:(l==s)=true:=by rw[beq_iff_eq];exact hs
   have hsc:(l != s)=false:=by rw[bne,hsb];rfl
   have HF:Hid (r=true):=hid (by rw[HB.out];simp[hs];have:=HK.out;omega);cases hrd:Gr.rd s with
   |none=>exact absurd (HN.out hrd) (by have:=HK.out;simp only;omega)
   |some x=>
    obtain⟨hrx,hok⟩:=HRS.out x hrd;have HRX:=hid hrx;have hsp:=zya hok;obtain⟨sh,hsh⟩:=ex (moSh x)
    obtain⟨zz,hzz⟩:∃zz:Int,((x.z.toNat:Nat):Int)=zz:=⟨_,rfl⟩
    rw[hsh,hzz]at HRX;rw[hsh]at hsp;clear hs hrd hok hrx hsh hzz HRS HN;go_enter func74,ntmps74;go_wp2_with fail;refine HC.out.mono ?_;rintro e w1 ⟨rfl,hb1⟩;have HB1:=hid hb1;clear hb1;go_wp2_with fail;refine(HRX.out _).mono ?_;rintro e w2 ⟨rfl,hb2⟩;have HB2:=hid (HB1.out.trans (hb2.mono HB1.out.size));clear hb2;go_wp2;go_ret;exact⟨⟨_,rfl,by rw[HF.out];simp;omega⟩,HB2.out.alloc HB2.out.size _⟩
  ·have hsb:(l==s)=false:=by rw[beq_eq_false_iff_ne];exact hs
   have hsc:(l != s)=true:=by rw[bne,hsb];rfl
   have HF:Hid (r=false):=hid (by rw[HB.out];simp[hs]);clear hs HRS HN;go_enter func74,ntmps74;go_wp2_with fail;refine HC.out.mono ?_;rintro e w1 ⟨rfl,hb1⟩;have HB1:=hid hb1;clear hb1;go_wp2;go_ret;exact⟨⟨_,rfl,by rw[HF.out];rfl⟩,HB1.out⟩
 ·have h0b:(ki==0)=false:=by simpa using h0
  have h0c:(ki != 0)=true:=by rw[bne,h0b];rfl
  have HF:Hid (r=false):=hid (by rw[HB.out];simp;intro e;exact absurd (by have:=HK.out;omega) h0);clear HRS HN;go_enter func74,ntmps74;go_wp2_with fail;refine HC.out.mono ?_;rintro e w1 ⟨rfl,hb1⟩;have HB1:=hid hb1;clear hb1;go_wp2;go_ret;exact⟨⟨_,rfl,by rw[HF.out];rfl⟩,HB1.out⟩
theorem zti (text:Gr.Str) (hl:text.length<=1073741823):ScalOk UT 8 text (locB text):=by
 intro w hw;have HC:=hid (znb text hl w hw);obtain⟨r,hr⟩:=ex (locB text)
 rw[hr]at HC ⊢;clear hr hw;go_enter func42,ntmps42;go_wp2_with fail;refine HC.out.mono ?_;rintro e w2 ⟨⟨n,rfl,hn⟩,hb⟩;have HB:=hid hb;have HNN:=hid hn;clear hb hn;go_wp2;go_ret;exact⟨by rw[<-HNN.out];rfl,HB.out⟩
theorem ztj (text:Gr.Str) (hl:text.length<=1073741823):ScalOk UT 7 text (insB text):=by
 intro w hw;have HC:=hid (zi1 text hl w hw);have HB:Hid (insB text=decide ((insP text).2=0/\(insP text).1=text)):=hid rfl;obtain⟨r,hr⟩:=ex (insB text)
 rw[hr]at HB ⊢;obtain⟨⟨l,k⟩,hp⟩:∃p,insP text=p:=⟨_,rfl⟩
 rw[hp]at HC HB;obtain⟨ki,hki⟩:∃ki:Int,(k:Int)=ki:=⟨_,rfl⟩
 unfold zdc at HC;simp only[hki]at HC HB;have HK:=hid hki;clear hr hp hki hw;by_cases h0:ki=0
 ·subst h0;have h0b:((0:Int)==0)=true:=rfl;by_cases hs:l=text
  ·have hsb:(l==text)=true:=by rw[beq_iff_eq];exact hs
   have HF:Hid (r=true):=hid (by rw[HB.out];simp[hs];have:=HK.out;omega);clear hs;go_enter func42,ntmps42;go_wp2_with fail;refine HC.out.mono ?_;rintro e w1 ⟨rfl,hb1⟩;have HB1:=hid hb1;clear hb1;go_wp2;go_ret;rw[HF.out];exact⟨rfl,HB1.out⟩
  ·have hsb:(l==text)=false:=by rw[beq_eq_false_iff_ne];exact hs
   have HF:Hid (r=false):=hid (by rw[HB.out];simp[hs]);clear hs;go_enter func42,ntmps42;go_wp2_with fail;refine HC.out.mono ?_;rintro e w1 ⟨rfl,hb1⟩;have HB1:=hid hb1;clear hb1;go_wp2;go_ret;rw[HF.out];exact⟨rfl,HB1.out⟩
 ·have h0b:(ki==0)=false:=by simpa using h0
  have HF:Hid (r=false):=hid (by rw[HB.out];simp;intro e;exact absurd (by have:=HK.out;omega) h0);go_enter func42,ntmps42;go_wp2_with fail;refine HC.out.mono ?_;rintro e w1 ⟨rfl,hb1⟩;have HB1:=hid hb1;clear hb1;go_wp2;go_ret;rw[HF.out];exact⟨rfl,HB1.out⟩
end Go.Proofs.YtoigpackhninoaaGreatDoor

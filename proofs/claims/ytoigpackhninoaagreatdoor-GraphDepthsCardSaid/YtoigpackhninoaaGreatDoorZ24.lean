import Derived.Test.YtoigpackhninoaaGreatDoorZ06
namespace Go.Proofs.YtoigpackhninoaaGreatDoor
open _root_.Go.Proofs.Tryz
open Lib (hid)
set_option maxRecDepth 100000
set_option maxHeartbeats 16000000
open Go.RowKit
def OfPost (Z nanos:Int) (w:World) (e:Ending) (w':World):Prop:=∃y m d:Int,Cal.vld y m d=true/\Cal.num y m d=Z /86400-719528/\e=.returned (.agg #[.bool true,.bool true,.bool true,.int .i64 y,.int .i64 m,.int .i64 d,.int .i64 (Z%86400 /3600),.int .i64 (Z%86400 /60%60),.int .i64 (Z%86400%60),.int .i64 nanos,.int .i64 0,.bool false])/\Below w.heap.size w w'
theorem zwe (S Z nanos:Int) (hz:S- -62167219200=Z) (h0:0<=Z) (h1:Z<=315569519999) (w:World):
 Calls prog 133 #[.int .i64 S,.int .i64 nanos] w (OfPost Z nanos w):=by
 have hS0:-62167219200<=S:=by omega
 have hS1:S<=253402300799:=by omega
 obtain⟨N,hN⟩:=ex (Z /86400)
 obtain⟨R,hR⟩:=ex (Z%86400)
 have hN0:0<=N:=by omega
 have hN1:N<=3652424:=by omega
 have hR0:0<=R:=by omega
 have hR1:R<=86399:=by omega
 have HNR:Hid (Z /86400=N/\Z%86400=R):=hid ⟨hN,hR⟩;have HD:Hid (∀y:Int,0<=y->y<=10000->∀W,Calls prog 162 #[.int .i64 y,.int .i64 1,.int .i64 1] W fun e w'=>e=.returned (.int .i64 (Cal.fst y-719528))/\W=w'):=hid (fun y a b W=>by
  have:=zir y 1 1 a (by omega) (by omega) (by omega) (by omega) (by omega) W;rwa[show Cal.num y 1 1=Cal.fst y-719528 from by unfold Cal.num;rw[Cal.zyl];omega]at this)
 go_enter func133,ntmps133;go_upto_region 5 with fail;obtain⟨gb,hgb⟩:=ex w.heap.size
 obtain⟨w5,hw5⟩:∃w5,w5=(w.alloc (.cells #[.bool false,.bool false,.bool false,.int .i64 0,.int .i64 0,.int .i64 0,.int .i64 0,.int .i64 0,.int .i64 0,.int .i64 0,.int .i64 0,.bool false] 111)).alloc (.cells #[.bool true,.bool true,.bool true,.int .i64 0,.int .i64 0,.int .i64 0,.int .i64 (R /3600),.int .i64 (R /60%60),.int .i64 (R%60),.int .i64 nanos,.int .i64 0,.bool false] 111):=⟨_,rfl⟩
 have HB5:Hid (Blk w5 (gb+1) 111 (T12 true true true 0 0 0 (R /3600) (R /60%60) (R%60) nanos 0 false)/\Blk w5 gb 111 (T12 false false false 0 0 0 0 0 0 0 0 false)/\Below gb w w5):=hid (by
  rw[hw5,<-hgb];refine⟨?_,(Blk.new _ _ _).alloc _,zbu _ _⟩;have:=Blk.new (w.alloc (.cells #[.bool false,.bool false,.bool false,.int .i64 0,.int .i64 0,.int .i64 0,.int .i64 0,.int .i64 0,.int .i64 0,.int .i64 0,.int .i64 0,.bool false] 111)) 111 (T12 true true true 0 0 0 (R /3600) (R /60%60) (R%60) nanos 0 false);rwa[World.size_alloc]at this)
 have HGB:=hid hgb;(try rw[<-hw5]);(try rw[hgb]);rw[hN,hR];clear hw5 hgb hN hR hz h0 h1;have q3:w5.cell? ⟨gb+1,3,none⟩=some (.int .i64 0):=HB5.out.1.cell 3;have qf:∀j,w5.frozen? ⟨gb+1,j,none⟩=false:=HB5.out.1.frozen;have HG0:=hid (Cal.zxj N hN0);go_wp2_with fail;clear q3 qf;go_loopw [35] (fun _ wr=>∃y:Int,0<=y/\y<=9999/\Hid (Cal.fst y<=N/\Blk wr (gb+1) 111 (T12 true true true y 0 0 (R /3600) (R /60%60) (R%60) nanos 0 false)/\Blk wr gb 111 (T12 false false false 0 0 0 0 0 0 0 0 false)/\Below gb w wr)) (fun _ wr=>match wr.cell? ⟨gb+1,3,none⟩with|some (.int _ n)=>10000-n.toNat|_=>0)
 case atStart=>exact⟨N /366,by omega,by omega,hid ⟨HG0.out,HB5.out.1.set_ 3 _,HB5.out.2.1.far (Nat.succ_ne_self gb).symm _,HB5.out.2.2.setCell (p:=⟨gb+1,3,none⟩) (by simp) _⟩⟩
 case round=>
  obtain⟨w7,hw7⟩:∃w7,w7=wr:=⟨_,rfl⟩
  subst hw7;obtain⟨y,hy0,hy1,HV⟩:=hrel;have hfs:=Cal.zk3 y hy0;have hl:=Cal.zxh y;have bd:=Cal.zxi y (by omega) (by omega);have bd':=Cal.zxi (y+1) (by omega) (by omega);have HFS:Hid (Cal.fst (y+1)=Cal.fst y+365+Cal.lp y/\0<=Cal.lp y/\Cal.lp y<=1):=hid ⟨hfs,hl⟩;obtain⟨f1,hf1⟩:=ex (Cal.fst (y+1))
  obtain⟨f0,hf0⟩:=ex (Cal.fst y)
  have HF01:Hid (Cal.fst (y+1)=f1/\Cal.fst y=f0):=hid ⟨hf1,hf0⟩;have HD1:Hid (∀W,Calls prog 162 #[.int .i64 (y+1),.int .i64 1,.int .i64 1] W fun e w'=>e=.returned (.int .i64 (f1-719528))/\W=w'):=hid (fun W=>by rw[<-hf1];exact HD.out (y+1) (by omega) (by omega) W);have HD0:Hid (∀W,Calls prog 162 #[.int .i64 y,.int .i64 1,.int .i64 1] W fun e w'=>e=.returned (.int .i64 (f0-719528))/\W=w'):=hid (fun W=>by rw[<-hf0];exact HD.out y (by omega) (by omega) W);rw[hf1]at bd';rw[hf0]at bd;clear hfs hl hf1 hf0;have q3:w7.cell? ⟨gb+1,3,none⟩=some (.int .i64 y):=HV.out.2.1.cell 3;have q4:w7.cell? ⟨gb+1,4,none⟩=some (.int .i64 0):=HV.out.2.1.cell 4;have qf:∀j,w7.frozen? ⟨gb+1,j,none⟩=false:=HV.out.2.1.frozen;have hNf:f0<=N:=by have:=HV.out.1;rw[HF01.out.2]at this;exact this
  by_cases hc:f1<=N
  ·have hcI:f1-719528<=N-719528:=by omega
   have hy4:y<9999:=by
    have:=Cal.zo9;by_cases e:y=9999
    ·subst e;have h2:=HF01.out.1;rw[show(9999:Int)+1=10000 from rfl]at h2;omega
    ·omega
   have HNX:Hid (Cal.fst (y+1)<=N/\Blk (w7.setCell ⟨gb+1,3,none⟩ (.int .i64 (y+1))) (gb+1) 111 (T12 true true true (y+1) 0 0 (R /3600) (R /60%60) (R%60) nanos 0 false)/\Blk (w7.setCell ⟨gb+1,3,none⟩ (.int .i64 (y+1))) gb 111 (T12 false false false 0 0 0 0 0 0 0 0 false)/\Below gb w (w7.setCell ⟨gb+1,3,none⟩ (.int .i64 (y+1)))):=hid ⟨by rw[HF01.out.1];exact hc,HV.out.2.1.set_ 3 _,HV.out.2.2.1.far (Nat.succ_ne_self gb).symm _,HV.out.2.2.2.setCell (p:=⟨gb+1,3,none⟩) (by simp) _⟩;go_wp2_with fail;refine(HD1.out _).mono ?_;rintro e w' ⟨rfl,rfl⟩;go_wp2_with fail;have q3':(w7.setCell ⟨gb+1,3,none⟩ (.int .i64 (y+1))).cell? ⟨gb+1,3,none⟩=some (.int .i64 (y+1)):=HNX.out.2.1.cell 3;go_roundw
   case rel=>exact⟨y+1,by omega,by omega,HNX⟩
   case measure=>rw[q3',q3];simp only;omega
  ·have hcI:¬f1-719528<=N-719528:=by omega
   have hN2:N<f0+366:=by have h1:=HFS.out;rw[HF01.out.1,HF01.out.2]at h1;omega
   have HNY:Hid (N<f0+365+Cal.lp y):=hid (by have h1:=HFS.out;rw[HF01.out.1,HF01.out.2]at h1;omega);go_wp2_with fail;refine(HD1.out _).mono ?_;rintro e w' ⟨rfl,rfl⟩;go_wp2_with fail;refine(HD0.out _).mono ?_;rintro e w' ⟨rfl,rfl⟩;go_wp2_with fail;clear q3 q4 qf;go_loopw [6] (fun s6 wr=>∃m v:Int,1<=m/\m<=12/\0<=v/\v<=366/\s6=.int .i64 v/\Hid (v=N-f0-Cal.cum y m/\Blk wr (gb+1) 111 (T12 true true true y m 0 (R /3600) (R /60%60) (R%60) nanos 0 false)/\Blk wr gb 111 (T12 false false false 0 0 0 0 0 0 0 0 false)/\Below gb w wr)) (fun s6 wr=>match wr.cell? ⟨gb+1,4,none⟩with|some (.int _ n)=>13-n.toNat|_=>0)
   case atStart=>exact⟨1,N-f0,by omega,by omega,by omega,by omega,by exact congrArg (Value.int .i64) (by omega),hid ⟨by rw[Cal.zyl];omega,HV.out.2.1.set_ 4 _,HV.out.2.2.1.far (Nat.succ_ne_self gb).symm _,HV.out.2.2.2.setCell (p:=⟨gb+1,4,none⟩) (by simp) _⟩⟩
   case round=>
    obtain⟨w8,hw8⟩:∃w8,w8=wr:=⟨_,rfl⟩
    subst hw8;obtain⟨m,v,hm0,hm1,hv0,hv1,rfl,HV2⟩:=hrel;have hcs:=Cal.zg7 y m hm0 hm1;have hdb:=Cal.zxk y m;obtain⟨q,hq⟩:=ex (Cal.dim y m)
    have HMO:Hid (∀W,Calls prog 138 #[.int .i64 y,.int .i64 m] W fun e w'=>e=.returned (.int .i64 q)/\W=w'):=hid (fun W=>by rw[<-hq];exact zd4 y m hm0 hm1 W);rw[hq]at hcs hdb;have HCS:=hid hcs;have HQ:=hid hq;clear hcs hq;have q3:w8.cell? ⟨gb+1,3,none⟩=some (.int .i64 y):=HV2.out.2.1.cell 3;have q4:w8.cell? ⟨gb+1,4,none⟩=some (.int .i64 m):=HV2.out.2.1.cell 4;have qf:∀j,w8.frozen? ⟨gb+1,j,none⟩=false:=HV2.out.2.1.frozen;by_cases hd:q<=v
    ·have hm4:m<12:=by
      by_cases e:m=12
      ·subst e;have h1:=HCS.out;have h2:=HNY.out;have h3:=Cal.zxn y;have h4:=HV2.out.1;rw[show(12:Int)+1=13 from rfl]at h1;omega
      ·omega
     have HNX:Hid (v-q=N-f0-Cal.cum y (m+1)/\Blk (w8.setCell ⟨gb+1,4,none⟩ (.int .i64 (m+1))) (gb+1) 111 (T12 true true true y (m+1) 0 (R /3600) (R /60%60) (R%60) nanos 0 false)/\Blk (w8.setCell ⟨gb+1,4,none⟩ (.int .i64 (m+1))) gb 111 (T12 false false false 0 0 0 0 0 0 0 0 false)/\Below gb w (w8.setCell ⟨gb+1,4,none⟩ (.int .i64 (m+1)))):=hid ⟨by rw[HCS.out];have:=HV2.out.1;omega,HV2.out.2.1.set_ 4 _,HV2.out.2.2.1.far (Nat.succ_ne_self gb).symm _,HV2.out.2.2.2.setCell (p:=⟨gb+1,4,none⟩) (by simp) _⟩;go_wp2_with fail;refine(HMO.out _).mono ?_;rintro e w' ⟨rfl,rfl⟩;go_wp2_with fail;refine(HMO.out _).mono ?_;rintro e w' ⟨rfl,rfl⟩;go_wp2_with fail;have q4':(w8.setCell ⟨gb+1,4,none⟩ (.int .i64 (m+1))).cell? ⟨gb+1,4,none⟩=some (.int .i64 (m+1)):=HNX.out.2.1.cell 4;go_roundw
     case rel=>exact⟨m+1,v-q,by omega,by omega,by omega,by omega,rfl,HNX⟩
     case measure=>rw[q4',q4];simp only;omega
    ·have HB8:Hid (Blk (w8.setCell ⟨gb+1,5,none⟩ (.int .i64 (v+1))) (gb+1) 111 (T12 true true true y m (v+1) (R /3600) (R /60%60) (R%60) nanos 0 false)/\Blk (w8.setCell ⟨gb+1,5,none⟩ (.int .i64 (v+1))) gb 111 (T12 false false false 0 0 0 0 0 0 0 0 false)/\Below gb w (w8.setCell ⟨gb+1,5,none⟩ (.int .i64 (v+1)))):=hid ⟨HV2.out.2.1.set_ 5 _,HV2.out.2.2.1.far (Nat.succ_ne_self gb).symm _,HV2.out.2.2.2.setCell (p:=⟨gb+1,5,none⟩) (by simp) _⟩;have q5:w8.cell? ⟨gb+1,5,none⟩=some (.int .i64 0):=HV2.out.2.1.cell 5;go_wp2_with fail;refine(HMO.out _).mono ?_;rintro e w' ⟨rfl,rfl⟩;go_upto_region 14 with fail;obtain⟨w9,hw9⟩:=ex (w8.setCell ⟨gb+1,5,none⟩ (.int .i64 (v+1)))
     rw[hw9]at HB8 ⊢;clear hw9 q3 q4 q5 qf;obtain⟨a0,a1,a2,a3,a4,a5,a6,a7,a8,a9,a10,a11⟩:=zag HB8.out.1;have xb:∀j,w9.cell? ⟨gb,j,none⟩=(#[.bool false,.bool false,.bool false,.int .i64 0,.int .i64 0,.int .i64 0,.int .i64 0,.int .i64 0,.int .i64 0,.int .i64 0,.int .i64 0,.bool false]:Array Value)[j]? :=fun j=>HB8.out.2.1.cell j
     have xf:∀j,w9.frozen? ⟨gb,j,none⟩=false:=HB8.out.2.1.frozen;go_wp2_with fail;have HSB:Blk ((((((((((((w9.setCell ⟨gb,0,none⟩ (.bool true)).setCell ⟨gb,1,none⟩ (.bool true)).setCell ⟨gb,2,none⟩ (.bool true)).setCell ⟨gb,3,none⟩ (.int .i64 y)).setCell ⟨gb,4,none⟩ (.int .i64 m)).setCell ⟨gb,5,none⟩ (.int .i64 (v+1))).setCell ⟨gb,6,none⟩ (.int .i64 (R /3600))).setCell ⟨gb,7,none⟩ (.int .i64 (R /60%60))).setCell ⟨gb,8,none⟩ (.int .i64 (R%60))).setCell ⟨gb,9,none⟩ (.int .i64 nanos)).setCell ⟨gb,10,none⟩ (.int .i64 0)).setCell ⟨gb,11,none⟩ (.bool false)) gb 111 (T12 true true true y m (v+1) (R /3600) (R /60%60) (R%60) nanos 0 false):=zbb HB8.out.2.1;have HSH:Below gb w ((((((((((((w9.setCell ⟨gb,0,none⟩ (.bool true)).setCell ⟨gb,1,none⟩ (.bool true)).setCell ⟨gb,2,none⟩ (.bool true)).setCell ⟨gb,3,none⟩ (.int .i64 y)).setCell ⟨gb,4,none⟩ (.int .i64 m)).setCell ⟨gb,5,none⟩ (.int .i64 (v+1))).setCell ⟨gb,6,none⟩ (.int .i64 (R /3600))).setCell ⟨gb,7,none⟩ (.int .i64 (R /60%60))).setCell ⟨gb,8,none⟩ (.int .i64 (R%60))).setCell ⟨gb,9,none⟩ (.int .i64 nanos)).setCell ⟨gb,10,none⟩ (.int .i64 0)).setCell ⟨gb,11,none⟩ (.bool false)):=zcc HB8.out.2.2 (Nat.le_refl gb);obtain⟨e0,e1,e2,e3,e4,e5,e6,e7,e8,e9,e10,e11⟩:=zag HSB;refine bodyPost_ret (v:=.agg #[.bool true,.bool true,.bool true,.int .i64 y,.int .i64 m,.int .i64 (v+1),.int .i64 (R /3600),.int .i64 (R /60%60),.int .i64 (R%60),.int .i64 nanos,.int .i64 0,.bool false]) (by simp[results,results133,go_sem,e0,e1,e2,e3,e4,e5,e6,e7,e8,e9,e10,e11]) rfl ?_;unfold OfPost;rw[HNR.out.1,HNR.out.2,HGB.out];exact⟨y,m,v+1,Cal.zyw ⟨hy0,hy1,hm0,hm1,by omega,by rw[HQ.out];omega⟩,by unfold Cal.num;rw[HF01.out.2];have:=HV2.out.1;omega,rfl,HSH⟩
open Gr
theorem zdp (date time zone:Bool) (y m d h mi c nanos:Nat) (off:Int) (late:Bool) (hy:y<=999999999) (hm:m<=999999999) (hd:d<=999999999) (hh:h<=999999999) (hmi:mi<=999999999) (hc:c<=999999999) (hn:nanos<=999999999) (w:World):
 Calls prog 105 #[.agg #[.bool date,.bool time,.bool zone,.int .i64 (y:Int),.int .i64 (m:Int),.int .i64 (d:Int),.int .i64 (h:Int),.int .i64 (mi:Int),.int .i64 (c:Int),.int .i64 (nanos:Int),.int .i64 off,.bool late]] w fun e w'=>e=.returned (.string ⟨((if date=true then dateS y m d else[])++(if(date && time)=true then[84]else[])++(if time=true then clkS h mi c nanos else[])++(if zone=true then[90]else[]):Gr.Str).toArray⟩)/\Below w.heap.size w w':=by
 have HPY:=hid (fun W=>zce y 4 (y:Int) 4 rfl rfl (by omega) (by omega) W);have LHPY:=za4 4 y;have HPM:=hid (fun W=>zce m 2 (m:Int) 2 rfl rfl (by omega) (by omega) W);have LHPM:=za4 2 m;have HPD:=hid (fun W=>zce d 2 (d:Int) 2 rfl rfl (by omega) (by omega) W);have LHPD:=za4 2 d;have HPH:=hid (fun W=>zce h 2 (h:Int) 2 rfl rfl (by omega) (by omega) W);have LHPH:=za4 2 h;have HPI:=hid (fun W=>zce mi 2 (mi:Int) 2 rfl rfl (by omega) (by omega) W);have LHPI:=za4 2 mi;have HPC:=hid (fun W=>zce c 2 (c:Int) 2 rfl rfl (by omega) (by omega) W);have LHPC:=za4 2 c;have HPN:=hid (fun W=>zce nanos 9 (nanos:Int) 9 rfl rfl (by omega) (by omega) W);have LHPN:=za4 9 nanos;obtain⟨py,epy⟩:=ex (Gr.pd 4 y)
 rw[epy]at HPY LHPY;obtain⟨pm,epm⟩:=ex (Gr.pd 2 m)
 rw[epm]at HPM LHPM;obtain⟨pd,epd⟩:=ex (Gr.pd 2 d)
 rw[epd]at HPD LHPD;obtain⟨ph,eph⟩:=ex (Gr.pd 2 h)
 rw[eph]at HPH LHPH;obtain⟨pi,epi⟩:=ex (Gr.pd 2 mi)
 rw[epi]at HPI LHPI;obtain⟨pc,epc⟩:=ex (Gr.pd 2 c)
 rw[epc]at HPC LHPC;obtain⟨pn,epn⟩:=ex (Gr.pd 9 nanos)
 rw[epn]at HPN LHPN;have HEQ:Hid (dateS y m d=py++[45]++pm++[45]++pd/\clkS h mi c nanos=ph++[58]++pi++[58]++pc++(if nanos=0 then([]:Gr.Str)else 46::trimZ pn)/\Gr.pd 9 nanos=pn):=hid ⟨by simp only[dateS,epy,epm,epd];simp,by simp only[clkS,nanoS,eph,epi,epc,epn];simp,epn⟩;clear epy epm epd eph epi epc epn;obtain⟨r,hr⟩:∃r:Gr.Str,((if date=true then dateS y m d else[])++(if(date && time)=true then[84]else[])++(if time=true then clkS h mi c nanos else[])++(if zone=true then[90]else[]))=r:=⟨_,rfl⟩
 have HR0:=hid hr;rw[hr];clear hr;obtain⟨gb,hgb⟩:=ex w.heap.size
 obtain⟨w0,hw0⟩:∃w0,w0=w.alloc (.cells #[.bool date,.bool time,.bool zone,.int .i64 (y:Int),.int .i64 (m:Int),.int .i64 (d:Int),.int .i64 (h:Int),.int .i64 (mi:Int),.int .i64 (c:Int),.int .i64 (nanos:Int),.int .i64 off,.bool late] 111):=⟨_,rfl⟩
 have HB0:Hid (Blk w0 gb 111 (T12 date time zone (y:Int) (m:Int) (d:Int) (h:Int) (mi:Int) (c:Int) (nanos:Int) off late)/\Below gb w w0):=hid (by rw[hw0,<-hgb];exact⟨Blk.new _ _ _,(Below.refl _ _).alloc (Nat.le_refl _) _⟩);have HGB:=hid hgb;have GHPY:Hid (∀W:WB w0.heap.size w0,Calls prog 139 #[.int .i64 (y:Int),.int .i64 4] W.w fun e w'=>e=.returned (.string ⟨py.toArray⟩)/\Below w0.heap.size w0 w'):=hid (fun W=>(HPY.out W.w).mono (fun _ _ ⟨e1,e2⟩=>⟨e1,W.h.trans (e2.mono W.h.size)⟩));have GHPM:Hid (∀W:WB w0.heap.size w0,Calls prog 139 #[.int .i64 (m:Int),.int .i64 2] W.w fun e w'=>e=.returned (.string ⟨pm.toArray⟩)/\Below w0.heap.size w0 w'):=hid (fun W=>(HPM.out W.w).mono (fun _ _ ⟨e1,e2⟩=>⟨e1,W.h.trans (e2.mono W.h.size)⟩));have GHPD:Hid (∀W:WB w0.heap.size w0,Calls prog 139 #[.int .i64 (d:Int),.int .i64 2] W.w fun e w'=>e=.returned (.string ⟨pd.toArray⟩)/\Below w0.heap.size w0 w'):=hid (fun W=>(HPD.out W.w).mono (fun _ _ ⟨e1,e2⟩=>⟨e1,W.h.trans (e2.mono W.h.size)⟩));have GHPH:Hid (∀W:WB w0.heap.size w0,Calls prog 139 #[.int .i64 (h:Int),.int .i64 2] W.w fun e w'=>e=.returned (.string ⟨ph.toArray⟩)/\Below w0.heap.size w0 w'):=hid (fun W=>(HPH.out W.w).mono (fun _ _ ⟨e1,e2⟩=>⟨e1,W.h.trans (e2.mono W.h.size)⟩));have GHPI:Hid (∀W:WB w0.heap.size w0,Calls prog 139 #[.int .i64 (mi:Int),.int .i64 2] W.w fun e w'=>e=.returned (.string ⟨pi.toArray⟩)/\Below w0.heap.size w0 w'):=hid (fun W=>(HPI.out W.w).mono (fun _ _ ⟨e1,e2⟩=>⟨e1,W.h.trans (e2.mono W.h.size)⟩));have GHPC:Hid (∀W:WB w0.heap.size w0,Calls prog 139 #[.int .i64 (c:Int),.int .i64 2] W.w fun e w'=>e=.returned (.string ⟨pc.toArray⟩)/\Below w0.heap.size w0 w'):=hid (fun W=>(HPC.out W.w).mono (fun _ _ ⟨e1,e2⟩=>⟨e1,W.h.trans (e2.mono W.h.size)⟩));clear HPY HPM HPD HPH HPI HPC;go_enter func105,ntmps105;go_upto_region 2 with fail;(try rw[<-hw0]);(try rw[hgb]);clear hw0 hgb;have q0:w0.cell? ⟨gb,0,none⟩=some (.bool date):=(HB0.out.1.below (Below.refl _ _) HB0.out.1.lt).cell 0;go_upto_if 6 with fail;go_cut [3] (fun s3 wx=>∃S:Gr.Str,s3=.string ⟨S.toArray⟩/\S.length<=60/\Hid (S=(if date=true then dateS y m d else[])/\Below w0.heap.size w0 wx))
 case first=>
  cases date with
  |true=>
   go_upto_region 3 with fail;clear q0;have p3:∀W:WB w0.heap.size w0,W.w.cell? ⟨gb,3,none⟩=some (.int .i64 (y:Int)):=fun W=>(HB0.out.1.below W.h HB0.out.1.lt).cell 3
   have p4:∀W:WB w0.heap.size w0,W.w.cell? ⟨gb,4,none⟩=some (.int .i64 (m:Int)):=fun W=>(HB0.out.1.below W.h HB0.out.1.lt).cell 4
   have p5:∀W:WB w0.heap.size w0,W.w.cell? ⟨gb,5,none⟩=some (.int .i64 (d:Int)):=fun W=>(HB0.out.1.below W.h HB0.out.1.lt).cell 5
   obtain⟨s1,hs1⟩:∃x:Gr.Str,py++[45]=x:=⟨_,rfl⟩
   have Ls1:s1.length<=20:=by rw[<-hs1];simp<;>omega
   have as1:=fun W=>zab py [45] (by first|omega| (simp<;>omega)) W
   rw[hs1]at as1;have Hs1:=hid hs1;clear hs1;obtain⟨s2,hs2⟩:∃x:Gr.Str,s1++pm=x:=⟨_,rfl⟩
   have Ls2:s2.length<=30:=by rw[<-hs2];simp<;>omega
   have as2:=fun W=>zab s1 pm (by first|omega| (simp<;>omega)) W
   rw[hs2]at as2;have Hs2:=hid hs2;clear hs2;obtain⟨s3,hs3⟩:∃x:Gr.Str,s2++[45]=x:=⟨_,rfl⟩
   have Ls3:s3.length<=40:=by rw[<-hs3];simp<;>omega
   have as3:=fun W=>zab s2 [45] (by first|omega| (simp<;>omega)) W
   rw[hs3]at as3;have Hs3:=hid hs3;clear hs3;obtain⟨s4,hs4⟩:∃x:Gr.Str,s3++pd=x:=⟨_,rfl⟩
   have Ls4:s4.length<=60:=by rw[<-hs4];simp<;>omega
   have as4:=fun W=>zab s3 pd (by first|omega| (simp<;>omega)) W
   rw[hs4]at as4;have Hs4:=hid hs4;clear hs4;refine zaa w0.heap.size w0 (by kernel_rfl) (by kernel_rfl) (Below.refl _ _) ?_
   iterate 14 (try go_big_quiet_step ((first| (with_reducible refine Calls.grow (GHPY.out _))| (with_reducible refine Calls.grow (GHPM.out _))| (with_reducible refine Calls.grow (GHPD.out _)))))
   refine wpQuiet_nil ?_;rintro _ ⟨wz,rfl⟩;go_wp2;go_meet;exact⟨s4,rfl,Ls4,hid ⟨by rw[if_pos trivial,HEQ.out.1,<-Hs4.out,<-Hs3.out,<-Hs2.out,<-Hs1.out],wz.h⟩⟩
  |false=>
   go_wp2;go_meet;exact⟨[],rfl,by simp,hid ⟨rfl,Below.refl _ _⟩⟩
 case rest=>
 obtain⟨S,rfl,hS,HS⟩:=hcut;clear q0;obtain⟨q0,q1⟩:=cells2 (HB0.out.1.below HS.out.2 HB0.out.1.lt);go_upto_region 4 with fail;obtain⟨wk,hwk⟩:∃wk,wk=wc:=⟨_,rfl⟩
 subst hwk;go_cut [25] (fun s25 wx=>s25=.bool (date && time)/\wx=wk)
 case first=>
  cases date<;>cases time
  all_goals
   go_wp2;go_meet;exact⟨rfl,rfl⟩
 case rest=>
 obtain⟨rfl,rfl⟩:=hcut;obtain⟨wk,hwk⟩:∃wk,wk=wc:=⟨_,rfl⟩
 subst hwk;go_upto_if 25 with fail;obtain⟨dt,hdt⟩:=ex (date && time)
 have HDT:=hid hdt;(try rw[hdt]);clear hdt;go_cut [3] (fun s3 wx=>∃U:Gr.Str,s3=.string ⟨U.toArray⟩/\U.length<=61/\Hid (U=S++(if(date && time)=true then[84]else[])/\wx=wk))
 case first=>
  cases dt with
  |true=>
   obtain⟨s5,hs5⟩:∃x:Gr.Str,S++[84]=x:=⟨_,rfl⟩
   have Ls5:s5.length<=61:=by rw[<-hs5];simp<;>omega
   have as5:=fun W=>zab S [84] (by first|omega| (simp<;>omega)) W
   rw[hs5]at as5;have Hs5:=hid hs5;clear hs5;go_wp2;go_meet;exact⟨s5,rfl,Ls5,hid ⟨by rw[HDT.out,if_pos rfl,Hs5.out],rfl⟩⟩
  |false=>
   go_wp2;go_meet;exact⟨S,rfl,by omega,hid ⟨by rw[HDT.out];simp,rfl⟩⟩
 case rest=>
 obtain⟨U,rfl,hU,HU⟩:=hcut;obtain⟨wm,hwm⟩:∃wm,wm=wc:=⟨_,rfl⟩
 subst hwm;have HBM:Hid (Below w0.heap.size w0 wm):=hid (by rw[HU.out.2];exact HS.out.2);clear q0 q1;have q1:wm.cell? ⟨gb,1,none⟩=some (.bool time):=(HB0.out.1.below HBM.out HB0.out.1.lt).cell 1;go_upto_region 6 with fail;go_upto_if 29 with fail;go_cut [3] (fun s3 wx=>∃V:Gr.Str,s3=.string ⟨V.toArray⟩/\V.length<=200/\Hid (V=U++(if time=true then clkS h mi c nanos else[])/\Below w0.heap.size w0 wx))
 case first=>
  cases time with
  |false=>
   go_wp2;go_meet;exact⟨U,rfl,by omega,hid ⟨by simp,HBM.out⟩⟩
  |true=>
   go_upto_region 7 with fail;clear q1;have p6:∀W:WB w0.heap.size w0,W.w.cell? ⟨gb,6,none⟩=some (.int .i64 (h:Int)):=fun W=>(HB0.out.1.below W.h HB0.out.1.lt).cell 6
   have p7:∀W:WB w0.heap.size w0,W.w.cell? ⟨gb,7,none⟩=some (.int .i64 (mi:Int)):=fun W=>(HB0.out.1.below W.h HB0.out.1.lt).cell 7
   have p8:∀W:WB w0.heap.size w0,W.w.cell? ⟨gb,8,none⟩=some (.int .i64 (c:Int)):=fun W=>(HB0.out.1.below W.h HB0.out.1.lt).cell 8
   obtain⟨s6,hs6⟩:∃x:Gr.Str,U++ph=x:=⟨_,rfl⟩
   have Ls6:s6.length<=80:=by rw[<-hs6];simp<;>omega
   have as6:=fun W=>zab U ph (by first|omega| (simp<;>omega)) W
   rw[hs6]at as6;have Hs6:=hid hs6;clear hs6;obtain⟨s7,hs7⟩:∃x:Gr.Str,s6++[58]=x:=⟨_,rfl⟩
   have Ls7:s7.length<=90:=by rw[<-hs7];simp<;>omega
   have as7:=fun W=>zab s6 [58] (by first|omega| (simp<;>omega)) W
   rw[hs7]at as7;have Hs7:=hid hs7;clear hs7;obtain⟨s8,hs8⟩:∃x:Gr.Str,s7++pi=x:=⟨_,rfl⟩
   have Ls8:s8.length<=110:=by rw[<-hs8];simp<;>omega
   have as8:=fun W=>zab s7 pi (by first|omega| (simp<;>omega)) W
   rw[hs8]at as8;have Hs8:=hid hs8;clear hs8;obtain⟨s9,hs9⟩:∃x:Gr.Str,s8++[58]=x:=⟨_,rfl⟩
   have Ls9:s9.length<=120:=by rw[<-hs9];simp<;>omega
   have as9:=fun W=>zab s8 [58] (by first|omega| (simp<;>omega)) W
   rw[hs9]at as9;have Hs9:=hid hs9;clear hs9;obtain⟨s10,hs10⟩:∃x:Gr.Str,s9++pc=x:=⟨_,rfl⟩
   have Ls10:s10.length<=140:=by rw[<-hs10];simp<;>omega
   have as10:=fun W=>zab s9 pc (by first|omega| (simp<;>omega)) W
   rw[hs10]at as10;have Hs10:=hid hs10;clear hs10;refine zaa w0.heap.size w0 (by kernel_rfl) (by kernel_rfl) HBM.out ?_
   iterate 16 (try go_big_quiet_step ((first| (with_reducible refine Calls.grow (GHPH.out _))| (with_reducible refine Calls.grow (GHPI.out _))| (with_reducible refine Calls.grow (GHPC.out _)))))
   refine wpQuiet_nil ?_;rintro _ ⟨wy,rfl⟩;have HCK:Hid (U++clkS h mi c nanos=s10++(if nanos=0 then([]:Gr.Str)else 46::trimZ pn)):=hid (by rw[HEQ.out.2.1,<-Hs10.out,<-Hs9.out,<-Hs8.out,<-Hs7.out,<-Hs6.out];simp);clear p6 p7 p8 as6 as7 as8 as9 as10;have q9:wy.w.cell? ⟨gb,9,none⟩=some (.int .i64 (nanos:Int)):=(HB0.out.1.below wy.h HB0.out.1.lt).cell 9;go_wp2_with fail;refine(HPN.out _).mono ?_;rintro e w5 ⟨rfl,hb5⟩;have HB5:Hid (Below w0.heap.size w0 w5):=hid (wy.h.trans (hb5.mono wy.h.size));clear hb5 q9;go_wp2_with fail;go_loop [4] (fun s4=>∃f:Gr.Str,s4=.string ⟨f.toArray⟩/\f.length<=9/\Hid (trimZ f=trimZ pn)) (fun s4=>match s4 with| .string x=>x.size|_=>0)
   case atStart=>exact⟨pn,rfl,by omega,hid rfl⟩
   case round=>
    obtain⟨f,rfl,hf9,HV⟩:=hrel;rcases List.eq_nil_or_concat f with rfl|⟨g,ch,hfg⟩
    ·have HE:Hid (U++clkS h mi c nanos=s10):=hid (by
      rw[HCK.out];have h1:=HV.out;rw[show(if nanos=0 then([]:Gr.Str)else 46::trimZ pn)=[]from by
       by_cases h0:nanos=0
       ·rw[if_pos h0]
       ·exact absurd h1.symm (by rw[<-HEQ.out.2.2];exact zpd 9 nanos (by omega) (by omega))]
      simp)
     go_wp2;go_meet;exact⟨s10,rfl,by omega,hid ⟨by rw[if_pos trivial,HE.out],HB5.out⟩⟩
    ·have hF:f=g++[ch]:=by rw[hfg];simp
     have hgl:g.length<=8:=by rw[hF]at hf9;simp at hf9;omega
     have hg2:(f.length:Int)-1=(g.length:Int):=by rw[hF];simp
     have hlt:g.length<f.length:=by rw[hF];simp
     have hcg:f[g.length]'hlt=ch:=by
      have:∀l:Gr.Str,l=g++[ch]->∀h,l[g.length]'h=ch:=by rintro _ rfl h;simp
      exact this f hF hlt
     have hcut:=fun W=>zuh f g.length (g.length:Int) rfl (Nat.le_of_lt hlt) W
     rw[show f.take g.length=g from by rw[hF];simp]at hcut;have HTR:Hid (trimZ f=if ch=48 then trimZ g else f):=hid (by rw[hF];exact zf8 g ch);clear hF hfg;have hF0:(0:Int)<(f.length:Int):=by omega
     have hF0b:0<f.length:=by omega
     by_cases hz:ch=48
     ·have hb1:=zav f g.length hlt ch 48 48 (by decide) hcg hz;have hb2:=zap f g.length hlt ch 48 48 (by decide) hcg hz;have HNX:Hid (trimZ g=trimZ pn):=hid (by rw[<-HV.out,HTR.out,if_pos hz]);have hms:g.length<f.length:=hlt;clear hcg hz;go_wp2;go_round
      case rel=>exact⟨g,rfl,by omega,HNX⟩
      case measure=>simp[ByteArray.size];omega
     ·have hb1:=zan f g.length hlt ch 48 48 (by decide) hcg hz;have hb2:=zaq f g.length hlt ch 48 48 (by decide) hcg hz;have HTF:Hid (trimZ pn=f):=hid (by rw[<-HV.out,HTR.out,if_neg hz]);clear hcg hz hcut;obtain⟨s11,hs11⟩:∃x:Gr.Str,s10++[46]=x:=⟨_,rfl⟩
      have Ls11:s11.length<=150:=by rw[<-hs11];simp<;>omega
      have as11:=fun W=>zab s10 [46] (by first|omega| (simp<;>omega)) W
      rw[hs11]at as11;have Hs11:=hid hs11;clear hs11;obtain⟨s12,hs12⟩:∃x:Gr.Str,s11++f=x:=⟨_,rfl⟩
      have Ls12:s12.length<=170:=by rw[<-hs12];simp<;>omega
      have as12:=fun W=>zab s11 f (by first|omega| (simp<;>omega)) W
      rw[hs12]at as12;have Hs12:=hid hs12;clear hs12;have HE:Hid (U++clkS h mi c nanos=s12):=hid (by
       rw[HCK.out,<-Hs12.out,<-Hs11.out];have hn0:¬nanos=0:=fun h0=>by
        have h1:=HEQ.out.2.2;rw[h0,zpb]at h1;have h2:=HTF.out;rw[<-h1,zmn]at h2;rw[<-h2]at hF0b;simp at hF0b
       rw[if_neg hn0,HTF.out];simp)
      go_wp2;go_meet;exact⟨s12,rfl,by omega,hid ⟨by rw[if_pos trivial,HE.out],HB5.out⟩⟩
 case rest=>
 obtain⟨V,rfl,hV,HV⟩:=hcut;clear q1;have q2:wc.cell? ⟨gb,2,none⟩=some (.bool zone):=(HB0.out.1.below HV.out.2 HB0.out.1.lt).cell 2;have b2:=fun W=>zab V [90] (by first|omega| (simp<;>omega)) W
 have HZ:Hid (Below w.heap.size w wc):=hid (by rw[HGB.out];exact HB0.out.2.trans (HV.out.2.mono (Nat.le_of_lt HB0.out.1.lt)));cases zone with
 |true=>
  have HE:Hid (r=V++[90]):=hid (by rw[<-HR0.out,HV.out.1,HU.out.1,HS.out.1];rfl);go_wp2;go_ret;exact⟨by rw[HE.out]<;>rfl,HZ.out⟩
 |false=>
  have HE:Hid (r=V):=hid (by rw[<-HR0.out,HV.out.1,HU.out.1,HS.out.1];simp);go_wp2;go_ret;exact⟨by rw[HE.out]<;>rfl,HZ.out⟩
theorem zqp (y m d h mi c nanos:Nat) (off:Int) (late:Bool) (hy:y<=999999999) (hm:m<=999999999) (hd:d<=999999999) (hh:h<=999999999) (hmi:mi<=999999999) (hc:c<=999999999) (hn:nanos<=999999999) (w:World):
 Calls prog 105 #[.agg #[.bool true,.bool false,.bool false,.int .i64 (y:Int),.int .i64 (m:Int),.int .i64 (d:Int),.int .i64 (h:Int),.int .i64 (mi:Int),.int .i64 (c:Int),.int .i64 (nanos:Int),.int .i64 off,.bool late]] w fun e w'=>e=.returned (.string ⟨(dateS y m d:Gr.Str).toArray⟩)/\Below w.heap.size w w':=by
 simpa using zdp true false false y m d h mi c nanos off late hy hm hd hh hmi hc hn w
theorem zqq (y m d h mi c nanos:Nat) (off:Int) (late:Bool) (hy:y<=999999999) (hm:m<=999999999) (hd:d<=999999999) (hh:h<=999999999) (hmi:mi<=999999999) (hc:c<=999999999) (hn:nanos<=999999999) (w:World):
 Calls prog 105 #[.agg #[.bool false,.bool true,.bool false,.int .i64 (y:Int),.int .i64 (m:Int),.int .i64 (d:Int),.int .i64 (h:Int),.int .i64 (mi:Int),.int .i64 (c:Int),.int .i64 (nanos:Int),.int .i64 off,.bool late]] w fun e w'=>e=.returned (.string ⟨(clkS h mi c nanos:Gr.Str).toArray⟩)/\Below w.heap.size w w':=by
 simpa using zdp false true false y m d h mi c nanos off late hy hm hd hh hmi hc hn w
theorem zqr (y m d h mi c nanos:Nat) (off:Int) (late:Bool) (hy:y<=999999999) (hm:m<=999999999) (hd:d<=999999999) (hh:h<=999999999) (hmi:mi<=999999999) (hc:c<=999999999) (hn:nanos<=999999999) (w:World):
 Calls prog 105 #[.agg #[.bool true,.bool true,.bool false,.int .i64 (y:Int),.int .i64 (m:Int),.int .i64 (d:Int),.int .i64 (h:Int),.int .i64 (mi:Int),.int .i64 (c:Int),.int .i64 (nanos:Int),.int .i64 off,.bool late]] w fun e w'=>e=.returned (.string ⟨((dateS y m d++[84]++clkS h mi c nanos):Gr.Str).toArray⟩)/\Below w.heap.size w w':=by
 simpa using zdp true true false y m d h mi c nanos off late hy hm hd hh hmi hc hn w
theorem zqs (y m d h mi c nanos:Nat) (off:Int) (late:Bool) (hy:y<=999999999) (hm:m<=999999999) (hd:d<=999999999) (hh:h<=999999999) (hmi:mi<=999999999) (hc:c<=999999999) (hn:nanos<=999999999) (w:World):
 Calls prog 105 #[.agg #[.bool true,.bool true,.bool true,.int .i64 (y:Int),.int .i64 (m:Int),.int .i64 (d:Int),.int .i64 (h:Int),.int .i64 (mi:Int),.int .i64 (c:Int),.int .i64 (nanos:Int),.int .i64 off,.bool late]] w fun e w'=>e=.returned (.string ⟨((dateS y m d++[84]++clkS h mi c nanos++[90]):Gr.Str).toArray⟩)/\Below w.heap.size w w':=by
 simpa using zdp true true true y m d h mi c nanos off late hy hm hd hh hmi hc hn w
end Go.Proofs.YtoigpackhninoaaGreatDoor

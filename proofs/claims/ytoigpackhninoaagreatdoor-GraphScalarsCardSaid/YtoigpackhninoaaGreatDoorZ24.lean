import Derived.Test.YtoigpackhninoaaGreatDoorGrInsP3D
import Derived.Test.YtoigpackhninoaaGreatDoorGrInsR12
namespace Go.Proofs.YtoigpackhninoaaGreatDoor
open Gr
open Go.RowKit
def moF (x:Gr.Mo):Nat->Nat:=fun j=>match j with
 | 0=>x.y
 | 1=>x.m
 | 2=>x.d
 | 3=>x.h
 | 4=>x.mi
 | 5=>x.c
 | 6=>x.zh
 |_=>x.zm
def moSh (x:Gr.Mo):Nat:=(if x.date=true then 1 else 0)+(if x.time=true then 2 else 0)
def moC (x:Gr.Mo):Array Value:=mC (moSh x) (moF x) x.nanos x.z.toNat
def rdT (s:Gr.Str):Option (Array Value):=(Gr.rd s).map moC
theorem zf0 {sh nn z:Nat} {f g:Nat->Nat} (h:∀j,j<8->f j=g j):mC sh f nn z=mC sh g nn z:=by
 simp[mC,h 0 (by omega),h 1 (by omega),h 2 (by omega),h 3 (by omega),h 4 (by omega),h 5 (by omega),h 6 (by omega),h 7 (by omega)]
theorem lt8 {P:Nat->Prop} (h:P 0/\P 1/\P 2/\P 3/\P 4/\P 5/\P 6/\P 7):∀j,j<8->P j:=by
 grind
theorem zgz {s:Gr.Str} (h:∀h2:2<s.length,(s[2]'h2).toNat=58):dateAt s=none:=by
 unfold dateAt;have:numAt s 0 4=none:=by
  rcases Nat.lt_or_ge s.length 4 with hl|hl
  ·exact zcl s 0 4 (by omega)
  ·exact zcy s 0 4 2 (by omega) (by omega) (by rw[(zda _ 58 (h (by omega))).1];decide)
 rw[this]
theorem zf1 {s:Gr.Str} (hl:2<s.length) (h:(s[2]'hl).toNat≠58):clockAt s 0=none:=by
 unfold clockAt;split
 ·rw[if_neg];rw[zbg (p:=0+2) hl rfl];simp;intro e;exact absurd e h
 ·rfl
theorem zrx {s:Gr.Str} (hd:dateAt s=none):ClockT s 0 (fun _=>0) 0 (rdT s) where
 no h:=by unfold rdT Gr.rd;rw[hd];simp only;rw[h];rfl
 yes k f' h h3 h4 h5 hf:=by
  unfold rdT Gr.rd finO;rw[hd];simp only;rw[h];simp only;by_cases hs:k.stop=s.length
  ·rw[if_pos hs,if_pos hs];show some _=some _
   congr 1
   exact zf0 (lt8 ⟨(hf 0 (by omega)).symm,(hf 1 (by omega)).symm,(hf 2 (by omega)).symm,h3.symm,h4.symm,h5.symm,(hf 6 (by omega)).symm,(hf 7 (by omega)).symm⟩)
  ·grind
theorem zry {s:Gr.Str} {g:Nat->Nat} (hd:dateAt s=some (g 0,g 1,g 2)) (h10:s.length≠10) (hsep:(isAt s 10 84 || isAt s 10 32)=true) (h6:g 6=0) (h7:g 7=0):ClockT s 1 g 11 (rdT s) where
 no h:=by unfold rdT Gr.rd;rw[hd];simp only;rw[if_neg h10,if_pos hsep,h];rfl
 yes k f' h h3 h4 h5 hf:=by
  unfold rdT Gr.rd finO;rw[hd];simp only;rw[if_neg h10,if_pos hsep,h];simp only;have hle:=zi7 (kh:=k.h) (km:=k.m) (kc:=k.s) (kf:=k.nanos) (ks:=k.stop) h;by_cases hs:k.stop=s.length
  ·rw[if_pos hs,if_pos hs];show some _=some _
   congr 1
   exact zf0 (lt8 ⟨(hf 0 (by omega)).symm,(hf 1 (by omega)).symm,(hf 2 (by omega)).symm,h3.symm,h4.symm,h5.symm,((hf 6 (by omega)).trans h6).symm,((hf 7 (by omega)).trans h7).symm⟩)
  ·rw[if_neg hs,if_neg hs,if_pos ⟨by trivial,by omega⟩];cases hz:zoneAt s k.stop with
   |none=>rfl
   |some z=>
    simp only;by_cases hzs:z.stop=s.length
    ·rw[if_pos hzs,if_pos hzs];show some _=some _
     congr 1
     exact zf0 (lt8 ⟨(hf 0 (by omega)).symm,(hf 1 (by omega)).symm,(hf 2 (by omega)).symm,h3.symm,h4.symm,h5.symm,rfl,rfl⟩)
    ·rw[if_neg hzs,if_neg hzs];rfl
open _root_.Go.Proofs.Tryz
open _root_.Go.Lib (hid)
set_option maxRecDepth 100000
set_option maxHeartbeats 16000000
def OfPost (Z nanos:Int) (w:World) (e:Ending) (w':World):Prop:=∃y m d:Int,Cal.vld y m d=true/\Cal.num y m d=Z /86400-719528/\e=.returned (.agg #[.bool true,.bool true,.bool true,.int .i64 y,.int .i64 m,.int .i64 d,.int .i64 (Z%86400 /3600),.int .i64 (Z%86400 /60%60),.int .i64 (Z%86400%60),.int .i64 nanos,.int .i64 0,.bool false])/\Below w.heap.size w w'
theorem zr3 (S Z nanos:Int) (hz:S- -62167219200=Z) (h0:0<=Z) (h1:Z<=315569519999) (w:World):
 Calls prog 133 #[.int .i64 S,.int .i64 nanos] w (OfPost Z nanos w):=by
 have hS0:-62167219200<=S:=by omega
 have hS1:S<=253402300799:=by omega
 obtain⟨N,hN⟩:=ex (Z /86400)
 obtain⟨R,hR⟩:=ex (Z%86400)
 have hN0:0<=N:=by omega
 have hN1:N<=3652424:=by omega
 have hR0:0<=R:=by omega
 have hR1:R<=86399:=by omega
 have HNR:Hid (Z /86400=N/\Z%86400=R):=hid ⟨hN,hR⟩;have HD:Hid (∀y:Int,0<=y->y<=10000->∀W,Calls prog 162 #[.int .i64 y,.int .i64 1,.int .i64 1] W fun e w'=>e=.returned (.int .i64 (Cal.fst y-719528))/\W=w'):=hid (fun y a b W=>by
  have:=zgv y 1 1 a (by omega) (by omega) (by omega) (by omega) (by omega) W;rwa[show Cal.num y 1 1=Cal.fst y-719528 from by unfold Cal.num;rw[Cal.zt1];omega]at this)
 go_enter func133,ntmps133;go_upto_region 5 with fail;obtain⟨gb,hgb⟩:=ex w.heap.size
 obtain⟨w5,hw5⟩:∃w5,w5=(w.alloc (.cells #[.bool false,.bool false,.bool false,.int .i64 0,.int .i64 0,.int .i64 0,.int .i64 0,.int .i64 0,.int .i64 0,.int .i64 0,.int .i64 0,.bool false] 111)).alloc (.cells #[.bool true,.bool true,.bool true,.int .i64 0,.int .i64 0,.int .i64 0,.int .i64 (R /3600),.int .i64 (R /60%60),.int .i64 (R%60),.int .i64 nanos,.int .i64 0,.bool false] 111):=⟨_,rfl⟩
 have HB5:Hid (Blk w5 (gb+1) 111 (T12 true true true 0 0 0 (R /3600) (R /60%60) (R%60) nanos 0 false)/\Blk w5 gb 111 (T12 false false false 0 0 0 0 0 0 0 0 false)/\Below gb w w5):=hid (by
  rw[hw5,<-hgb];refine⟨?_,(Blk.new _ _ _).alloc _,zbh _ _⟩;have:=Blk.new (w.alloc (.cells #[.bool false,.bool false,.bool false,.int .i64 0,.int .i64 0,.int .i64 0,.int .i64 0,.int .i64 0,.int .i64 0,.int .i64 0,.int .i64 0,.bool false] 111)) 111 (T12 true true true 0 0 0 (R /3600) (R /60%60) (R%60) nanos 0 false);rwa[World.size_alloc]at this)
 have HGB:=hid hgb;(try rw[<-hw5]);(try rw[hgb]);rw[hN,hR];clear hw5 hgb hN hR hz h0 h1;have q3:w5.cell? ⟨gb+1,3,none⟩=some (.int .i64 0):=HB5.out.1.cell 3;have qf:∀j,w5.frozen? ⟨gb+1,j,none⟩=false:=HB5.out.1.frozen;have HG0:=hid (Cal.ztb N hN0);go_wp2_with fail;clear q3 qf;go_loopw [35] (fun _ wr=>∃y:Int,0<=y/\y<=9999/\Hid (Cal.fst y<=N/\Blk wr (gb+1) 111 (T12 true true true y 0 0 (R /3600) (R /60%60) (R%60) nanos 0 false)/\Blk wr gb 111 (T12 false false false 0 0 0 0 0 0 0 0 false)/\Below gb w wr)) (fun _ wr=>match wr.cell? ⟨gb+1,3,none⟩with|some (.int _ n)=>10000-n.toNat|_=>0)
 case atStart=>exact⟨N /366,by omega,by omega,hid ⟨HG0.out,HB5.out.1.set_ 3 _,HB5.out.2.1.far (Nat.succ_ne_self gb).symm _,HB5.out.2.2.setCell (p:=⟨gb+1,3,none⟩) (by simp) _⟩⟩
 case round=>
  obtain⟨w7,hw7⟩:∃w7,w7=wr:=⟨_,rfl⟩
  subst hw7;obtain⟨y,hy0,hy1,HV⟩:=hrel;have hfs:=Cal.ziw y hy0;have hl:=Cal.zs9 y;have bd:=Cal.zta y (by omega) (by omega);have bd':=Cal.zta (y+1) (by omega) (by omega);have HFS:Hid (Cal.fst (y+1)=Cal.fst y+365+Cal.lp y/\0<=Cal.lp y/\Cal.lp y<=1):=hid ⟨hfs,hl⟩;obtain⟨f1,hf1⟩:=ex (Cal.fst (y+1))
  obtain⟨f0,hf0⟩:=ex (Cal.fst y)
  have HF01:Hid (Cal.fst (y+1)=f1/\Cal.fst y=f0):=hid ⟨hf1,hf0⟩;have HD1:Hid (∀W,Calls prog 162 #[.int .i64 (y+1),.int .i64 1,.int .i64 1] W fun e w'=>e=.returned (.int .i64 (f1-719528))/\W=w'):=hid (fun W=>by rw[<-hf1];exact HD.out (y+1) (by omega) (by omega) W);have HD0:Hid (∀W,Calls prog 162 #[.int .i64 y,.int .i64 1,.int .i64 1] W fun e w'=>e=.returned (.int .i64 (f0-719528))/\W=w'):=hid (fun W=>by rw[<-hf0];exact HD.out y (by omega) (by omega) W);rw[hf1]at bd';rw[hf0]at bd;clear hfs hl hf1 hf0;have q3:w7.cell? ⟨gb+1,3,none⟩=some (.int .i64 y):=HV.out.2.1.cell 3;have q4:w7.cell? ⟨gb+1,4,none⟩=some (.int .i64 0):=HV.out.2.1.cell 4;have qf:∀j,w7.frozen? ⟨gb+1,j,none⟩=false:=HV.out.2.1.frozen;have hNf:f0<=N:=by have:=HV.out.1;rw[HF01.out.2]at this;exact this
  by_cases hc:f1<=N
  ·have hcI:f1-719528<=N-719528:=by omega
   have hy4:y<9999:=by
    have:=Cal.zmb;by_cases e:y=9999
    ·subst e;have h2:=HF01.out.1;rw[show(9999:Int)+1=10000 from rfl]at h2;omega
    ·omega
   have HNX:Hid (Cal.fst (y+1)<=N/\Blk (w7.setCell ⟨gb+1,3,none⟩ (.int .i64 (y+1))) (gb+1) 111 (T12 true true true (y+1) 0 0 (R /3600) (R /60%60) (R%60) nanos 0 false)/\Blk (w7.setCell ⟨gb+1,3,none⟩ (.int .i64 (y+1))) gb 111 (T12 false false false 0 0 0 0 0 0 0 0 false)/\Below gb w (w7.setCell ⟨gb+1,3,none⟩ (.int .i64 (y+1)))):=hid ⟨by rw[HF01.out.1];exact hc,HV.out.2.1.set_ 3 _,HV.out.2.2.1.far (Nat.succ_ne_self gb).symm _,HV.out.2.2.2.setCell (p:=⟨gb+1,3,none⟩) (by simp) _⟩;go_wp2_with fail;refine(HD1.out _).mono ?_;rintro e w' ⟨rfl,rfl⟩;go_wp2_with fail;have q3':(w7.setCell ⟨gb+1,3,none⟩ (.int .i64 (y+1))).cell? ⟨gb+1,3,none⟩=some (.int .i64 (y+1)):=HNX.out.2.1.cell 3;go_roundw
   case rel=>exact⟨y+1,by omega,by omega,HNX⟩
   case measure=>rw[q3',q3];simp only;omega
  ·have hcI:¬f1-719528<=N-719528:=by omega
   have hN2:N<f0+366:=by have h1:=HFS.out;rw[HF01.out.1,HF01.out.2]at h1;omega
   have HNY:Hid (N<f0+365+Cal.lp y):=hid (by have h1:=HFS.out;rw[HF01.out.1,HF01.out.2]at h1;omega);go_wp2_with fail;refine(HD1.out _).mono ?_;rintro e w' ⟨rfl,rfl⟩;go_wp2_with fail;refine(HD0.out _).mono ?_;rintro e w' ⟨rfl,rfl⟩;go_wp2_with fail;clear q3 q4 qf;go_loopw [6] (fun s6 wr=>∃m v:Int,1<=m/\m<=12/\0<=v/\v<=366/\s6=.int .i64 v/\Hid (v=N-f0-Cal.cum y m/\Blk wr (gb+1) 111 (T12 true true true y m 0 (R /3600) (R /60%60) (R%60) nanos 0 false)/\Blk wr gb 111 (T12 false false false 0 0 0 0 0 0 0 0 false)/\Below gb w wr)) (fun s6 wr=>match wr.cell? ⟨gb+1,4,none⟩with|some (.int _ n)=>13-n.toNat|_=>0)
   case atStart=>exact⟨1,N-f0,by omega,by omega,by omega,by omega,by exact congrArg (Value.int .i64) (by omega),hid ⟨by rw[Cal.zt1];omega,HV.out.2.1.set_ 4 _,HV.out.2.2.1.far (Nat.succ_ne_self gb).symm _,HV.out.2.2.2.setCell (p:=⟨gb+1,4,none⟩) (by simp) _⟩⟩
   case round=>
    obtain⟨w8,hw8⟩:∃w8,w8=wr:=⟨_,rfl⟩
    subst hw8;obtain⟨m,v,hm0,hm1,hv0,hv1,rfl,HV2⟩:=hrel;have hcs:=Cal.zfu y m hm0 hm1;have hdb:=Cal.ztc y m;obtain⟨q,hq⟩:=ex (Cal.dim y m)
    have HMO:Hid (∀W,Calls prog 138 #[.int .i64 y,.int .i64 m] W fun e w'=>e=.returned (.int .i64 q)/\W=w'):=hid (fun W=>by rw[<-hq];exact zdc y m hm0 hm1 W);rw[hq]at hcs hdb;have HCS:=hid hcs;have HQ:=hid hq;clear hcs hq;have q3:w8.cell? ⟨gb+1,3,none⟩=some (.int .i64 y):=HV2.out.2.1.cell 3;have q4:w8.cell? ⟨gb+1,4,none⟩=some (.int .i64 m):=HV2.out.2.1.cell 4;have qf:∀j,w8.frozen? ⟨gb+1,j,none⟩=false:=HV2.out.2.1.frozen;by_cases hd:q<=v
    ·have hm4:m<12:=by
      by_cases e:m=12
      ·subst e;have h1:=HCS.out;have h2:=HNY.out;have h3:=Cal.ztf y;have h4:=HV2.out.1;rw[show(12:Int)+1=13 from rfl]at h1;omega
      ·omega
     have HNX:Hid (v-q=N-f0-Cal.cum y (m+1)/\Blk (w8.setCell ⟨gb+1,4,none⟩ (.int .i64 (m+1))) (gb+1) 111 (T12 true true true y (m+1) 0 (R /3600) (R /60%60) (R%60) nanos 0 false)/\Blk (w8.setCell ⟨gb+1,4,none⟩ (.int .i64 (m+1))) gb 111 (T12 false false false 0 0 0 0 0 0 0 0 false)/\Below gb w (w8.setCell ⟨gb+1,4,none⟩ (.int .i64 (m+1)))):=hid ⟨by rw[HCS.out];have:=HV2.out.1;omega,HV2.out.2.1.set_ 4 _,HV2.out.2.2.1.far (Nat.succ_ne_self gb).symm _,HV2.out.2.2.2.setCell (p:=⟨gb+1,4,none⟩) (by simp) _⟩;go_wp2_with fail;refine(HMO.out _).mono ?_;rintro e w' ⟨rfl,rfl⟩;go_wp2_with fail;refine(HMO.out _).mono ?_;rintro e w' ⟨rfl,rfl⟩;go_wp2_with fail;have q4':(w8.setCell ⟨gb+1,4,none⟩ (.int .i64 (m+1))).cell? ⟨gb+1,4,none⟩=some (.int .i64 (m+1)):=HNX.out.2.1.cell 4;go_roundw
     case rel=>exact⟨m+1,v-q,by omega,by omega,by omega,by omega,rfl,HNX⟩
     case measure=>rw[q4',q4];simp only;omega
    ·have HB8:Hid (Blk (w8.setCell ⟨gb+1,5,none⟩ (.int .i64 (v+1))) (gb+1) 111 (T12 true true true y m (v+1) (R /3600) (R /60%60) (R%60) nanos 0 false)/\Blk (w8.setCell ⟨gb+1,5,none⟩ (.int .i64 (v+1))) gb 111 (T12 false false false 0 0 0 0 0 0 0 0 false)/\Below gb w (w8.setCell ⟨gb+1,5,none⟩ (.int .i64 (v+1)))):=hid ⟨HV2.out.2.1.set_ 5 _,HV2.out.2.2.1.far (Nat.succ_ne_self gb).symm _,HV2.out.2.2.2.setCell (p:=⟨gb+1,5,none⟩) (by simp) _⟩;have q5:w8.cell? ⟨gb+1,5,none⟩=some (.int .i64 0):=HV2.out.2.1.cell 5;go_wp2_with fail;refine(HMO.out _).mono ?_;rintro e w' ⟨rfl,rfl⟩;go_upto_region 14 with fail;obtain⟨w9,hw9⟩:=ex (w8.setCell ⟨gb+1,5,none⟩ (.int .i64 (v+1)))
     rw[hw9]at HB8 ⊢;clear hw9 q3 q4 q5 qf;obtain⟨a0,a1,a2,a3,a4,a5,a6,a7,a8,a9,a10,a11⟩:=zaf HB8.out.1;have xb:∀j,w9.cell? ⟨gb,j,none⟩=(#[.bool false,.bool false,.bool false,.int .i64 0,.int .i64 0,.int .i64 0,.int .i64 0,.int .i64 0,.int .i64 0,.int .i64 0,.int .i64 0,.bool false]:Array Value)[j]? :=fun j=>HB8.out.2.1.cell j
     have xf:∀j,w9.frozen? ⟨gb,j,none⟩=false:=HB8.out.2.1.frozen;go_wp2_with fail;have HSB:Blk ((((((((((((w9.setCell ⟨gb,0,none⟩ (.bool true)).setCell ⟨gb,1,none⟩ (.bool true)).setCell ⟨gb,2,none⟩ (.bool true)).setCell ⟨gb,3,none⟩ (.int .i64 y)).setCell ⟨gb,4,none⟩ (.int .i64 m)).setCell ⟨gb,5,none⟩ (.int .i64 (v+1))).setCell ⟨gb,6,none⟩ (.int .i64 (R /3600))).setCell ⟨gb,7,none⟩ (.int .i64 (R /60%60))).setCell ⟨gb,8,none⟩ (.int .i64 (R%60))).setCell ⟨gb,9,none⟩ (.int .i64 nanos)).setCell ⟨gb,10,none⟩ (.int .i64 0)).setCell ⟨gb,11,none⟩ (.bool false)) gb 111 (T12 true true true y m (v+1) (R /3600) (R /60%60) (R%60) nanos 0 false):=za1 HB8.out.2.1;have HSH:Below gb w ((((((((((((w9.setCell ⟨gb,0,none⟩ (.bool true)).setCell ⟨gb,1,none⟩ (.bool true)).setCell ⟨gb,2,none⟩ (.bool true)).setCell ⟨gb,3,none⟩ (.int .i64 y)).setCell ⟨gb,4,none⟩ (.int .i64 m)).setCell ⟨gb,5,none⟩ (.int .i64 (v+1))).setCell ⟨gb,6,none⟩ (.int .i64 (R /3600))).setCell ⟨gb,7,none⟩ (.int .i64 (R /60%60))).setCell ⟨gb,8,none⟩ (.int .i64 (R%60))).setCell ⟨gb,9,none⟩ (.int .i64 nanos)).setCell ⟨gb,10,none⟩ (.int .i64 0)).setCell ⟨gb,11,none⟩ (.bool false)):=zbr HB8.out.2.2 (Nat.le_refl gb);obtain⟨e0,e1,e2,e3,e4,e5,e6,e7,e8,e9,e10,e11⟩:=zaf HSB;refine bodyPost_ret (v:=.agg #[.bool true,.bool true,.bool true,.int .i64 y,.int .i64 m,.int .i64 (v+1),.int .i64 (R /3600),.int .i64 (R /60%60),.int .i64 (R%60),.int .i64 nanos,.int .i64 0,.bool false]) (by simp[results,results133,go_sem,e0,e1,e2,e3,e4,e5,e6,e7,e8,e9,e10,e11]) rfl ?_;unfold OfPost;rw[HNR.out.1,HNR.out.2,HGB.out];exact⟨y,m,v+1,Cal.zue ⟨hy0,hy1,hm0,hm1,by omega,by rw[HQ.out];omega⟩,by unfold Cal.num;rw[HF01.out.2];have:=HV2.out.1;omega,rfl,HSH⟩
end Go.Proofs.YtoigpackhninoaaGreatDoor

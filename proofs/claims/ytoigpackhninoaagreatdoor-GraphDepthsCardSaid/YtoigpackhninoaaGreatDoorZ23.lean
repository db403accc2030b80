import Derived.Test.YtoigpackhninoaaGreatDoorZ07
namespace Go.Proofs.YtoigpackhninoaaGreatDoor
open Gr
open _root_.Go.Proofs.Tryz
open Lib (hid)
set_option maxRecDepth 100000
set_option maxHeartbeats 16000000
open Go.RowKit
theorem zfj (sh:Int) (y m d h mi c nanos:Nat) (zh zm z:Int) (hy:y<=9999) (hm:m<=99) (hd:d<=99) (hh:h<=99) (hmi:mi<=99) (hc:c<=99) (hn:nanos<=999999999) (hn0:sh=1->nanos=0) (w:World) (hT:UT w):
 Calls prog 128 #[.agg #[.int .i64 sh,.int .i64 (y:Int),.int .i64 (m:Int),.int .i64 (d:Int),.int .i64 (h:Int),.int .i64 (mi:Int),.int .i64 (c:Int),.int .i64 zh,.int .i64 zm,.int .i64 (nanos:Int),.int .u8 z]] w fun e w'=>e=.returned (.string ⟨((if sh=2 then[]else dateS y m d)++(if sh=3 then[84]else[])++(if sh=1 then[]else clkS h mi c nanos):Gr.Str).toArray⟩)/\Below w.heap.size w w':=by
 have HT:=hid hT;have HN0:=hid hn0;clear hT hn0;have HPY:=hid (fun(W:World) (hW:UT W)=>zcd y 4 (y:Int) 4 rfl rfl (by omega) (by omega) (by omega) W hW);have LHPY:=za4 4 y;have HPM:=hid (fun(W:World) (hW:UT W)=>zcd m 2 (m:Int) 2 rfl rfl (by omega) (by omega) (by omega) W hW);have LHPM:=za4 2 m;have HPD:=hid (fun(W:World) (hW:UT W)=>zcd d 2 (d:Int) 2 rfl rfl (by omega) (by omega) (by omega) W hW);have LHPD:=za4 2 d;have HPH:=hid (fun(W:World) (hW:UT W)=>zcd h 2 (h:Int) 2 rfl rfl (by omega) (by omega) (by omega) W hW);have LHPH:=za4 2 h;have HPI:=hid (fun(W:World) (hW:UT W)=>zcd mi 2 (mi:Int) 2 rfl rfl (by omega) (by omega) (by omega) W hW);have LHPI:=za4 2 mi;have HPC:=hid (fun(W:World) (hW:UT W)=>zcd c 2 (c:Int) 2 rfl rfl (by omega) (by omega) (by omega) W hW);have LHPC:=za4 2 c;have HPN:=hid (fun(W:World) (hW:UT W)=>zcd nanos 9 (nanos:Int) 9 rfl rfl (by omega) (by omega) (by omega) W hW);have LHPN:=za4 9 nanos;obtain⟨py,epy⟩:=ex (Gr.pd 4 y)
 rw[epy]at HPY LHPY;obtain⟨pm,epm⟩:=ex (Gr.pd 2 m)
 rw[epm]at HPM LHPM;obtain⟨pd,epd⟩:=ex (Gr.pd 2 d)
 rw[epd]at HPD LHPD;obtain⟨ph,eph⟩:=ex (Gr.pd 2 h)
 rw[eph]at HPH LHPH;obtain⟨pi,epi⟩:=ex (Gr.pd 2 mi)
 rw[epi]at HPI LHPI;obtain⟨pc,epc⟩:=ex (Gr.pd 2 c)
 rw[epc]at HPC LHPC;obtain⟨pn,epn⟩:=ex (Gr.pd 9 nanos)
 rw[epn]at HPN LHPN;have HEQ:Hid (dateS y m d=py++[45]++pm++[45]++pd/\clkS h mi c nanos=ph++[58]++pi++[58]++pc++nanoS nanos/\nanoS nanos=(if nanos=0 then[]else 46::trimZ pn)):=hid ⟨by simp only[dateS,epy,epm,epd];simp,by simp only[clkS,eph,epi,epc];simp,by simp only[nanoS,epn]⟩;clear epy epm epd eph epi epc epn;obtain⟨r,hr⟩:∃r:Gr.Str,((if sh=2 then[]else dateS y m d)++(if sh=3 then[84]else[])++(if sh=1 then[]else clkS h mi c nanos):Gr.Str)=r:=⟨_,rfl⟩
 have HR0:=hid hr;rw[hr];clear hr;obtain⟨gb,hgb⟩:=ex w.heap.size
 obtain⟨w0,hw0⟩:∃w0,w0=w.alloc (.cells #[.int .i64 sh,.int .i64 (y:Int),.int .i64 (m:Int),.int .i64 (d:Int),.int .i64 (h:Int),.int .i64 (mi:Int),.int .i64 (c:Int),.int .i64 zh,.int .i64 zm,.int .i64 (nanos:Int),.int .u8 z] 135):=⟨_,rfl⟩
 have HB0:Hid (Blk w0 gb 135 #[.int .i64 sh,.int .i64 (y:Int),.int .i64 (m:Int),.int .i64 (d:Int),.int .i64 (h:Int),.int .i64 (mi:Int),.int .i64 (c:Int),.int .i64 zh,.int .i64 zm,.int .i64 (nanos:Int),.int .u8 z]/\Below gb w w0/\UT w0):=hid (by
  rw[hw0,<-hgb];exact⟨Blk.new _ _ _,(Below.refl _ _).alloc (Nat.le_refl _) _,UT.stays _ _ HT.out ((Below.refl _ _).alloc (Nat.le_refl _) _)⟩)
 have HUT:Hid (∀W:WB w0.heap.size w0,UT W.w):=hid (fun W=>UT.stays _ _ HB0.out.2.2 W.h);have HGB:=hid hgb;have GHPY:Hid (∀W:WB w0.heap.size w0,Calls prog 160 #[.int .i64 (y:Int),.int .i64 4] W.w fun e w'=>e=.returned (.string ⟨py.toArray⟩)/\Below w0.heap.size w0 w'):=hid (fun W=>(HPY.out W.w (HUT.out W)).mono (fun _ _ ⟨e1,e2⟩=>⟨e1,W.h.trans (e2.mono W.h.size)⟩));have GHPM:Hid (∀W:WB w0.heap.size w0,Calls prog 160 #[.int .i64 (m:Int),.int .i64 2] W.w fun e w'=>e=.returned (.string ⟨pm.toArray⟩)/\Below w0.heap.size w0 w'):=hid (fun W=>(HPM.out W.w (HUT.out W)).mono (fun _ _ ⟨e1,e2⟩=>⟨e1,W.h.trans (e2.mono W.h.size)⟩));have GHPD:Hid (∀W:WB w0.heap.size w0,Calls prog 160 #[.int .i64 (d:Int),.int .i64 2] W.w fun e w'=>e=.returned (.string ⟨pd.toArray⟩)/\Below w0.heap.size w0 w'):=hid (fun W=>(HPD.out W.w (HUT.out W)).mono (fun _ _ ⟨e1,e2⟩=>⟨e1,W.h.trans (e2.mono W.h.size)⟩));have GHPH:Hid (∀W:WB w0.heap.size w0,Calls prog 160 #[.int .i64 (h:Int),.int .i64 2] W.w fun e w'=>e=.returned (.string ⟨ph.toArray⟩)/\Below w0.heap.size w0 w'):=hid (fun W=>(HPH.out W.w (HUT.out W)).mono (fun _ _ ⟨e1,e2⟩=>⟨e1,W.h.trans (e2.mono W.h.size)⟩));have GHPI:Hid (∀W:WB w0.heap.size w0,Calls prog 160 #[.int .i64 (mi:Int),.int .i64 2] W.w fun e w'=>e=.returned (.string ⟨pi.toArray⟩)/\Below w0.heap.size w0 w'):=hid (fun W=>(HPI.out W.w (HUT.out W)).mono (fun _ _ ⟨e1,e2⟩=>⟨e1,W.h.trans (e2.mono W.h.size)⟩));have GHPC:Hid (∀W:WB w0.heap.size w0,Calls prog 160 #[.int .i64 (c:Int),.int .i64 2] W.w fun e w'=>e=.returned (.string ⟨pc.toArray⟩)/\Below w0.heap.size w0 w'):=hid (fun W=>(HPC.out W.w (HUT.out W)).mono (fun _ _ ⟨e1,e2⟩=>⟨e1,W.h.trans (e2.mono W.h.size)⟩));clear HPY HPM HPD HPH HPI HPC;go_enter func128,ntmps128;go_upto_region 2 with fail;(try rw[<-hw0]);(try rw[hgb]);clear hw0 hgb;have q0:w0.cell? ⟨gb,0,none⟩=some (.int .i64 sh):=(HB0.out.1.below (Below.refl _ _) HB0.out.1.lt).cell 0;go_upto_if 6 with fail;go_cut [3] (fun s3 wx=>∃S:Gr.Str,s3=.string ⟨S.toArray⟩/\S.length<=60/\Hid (S=(if sh=2 then[]else dateS y m d)/\Below w0.heap.size w0 wx))
 case first=>
  by_cases h2:sh=2
  ·have h2b:(sh != 2)=false:=by simp[h2]
   have HX:Hid (([]:Gr.Str)=if sh=2 then[]else dateS y m d):=hid (by rw[if_pos h2]);clear h2;go_wp2;go_meet;exact⟨[],rfl,by simp,hid ⟨HX.out,Below.refl _ _⟩⟩
  ·have h2b:(sh != 2)=true:=by simpa using h2
   have HX:Hid ((if sh=2 then[]else dateS y m d)=dateS y m d):=hid (by rw[if_neg h2]);clear h2;go_upto_region 3 with fail;clear q0;have p1:∀W:WB w0.heap.size w0,W.w.cell? ⟨gb,1,none⟩=some (.int .i64 (y:Int)):=fun W=>(HB0.out.1.below W.h HB0.out.1.lt).cell 1
   have p2:∀W:WB w0.heap.size w0,W.w.cell? ⟨gb,2,none⟩=some (.int .i64 (m:Int)):=fun W=>(HB0.out.1.below W.h HB0.out.1.lt).cell 2
   have p3:∀W:WB w0.heap.size w0,W.w.cell? ⟨gb,3,none⟩=some (.int .i64 (d:Int)):=fun W=>(HB0.out.1.below W.h HB0.out.1.lt).cell 3
   obtain⟨s1,hs1⟩:∃x:Gr.Str,py++[45]=x:=⟨_,rfl⟩
   have Ls1:s1.length<=20:=by rw[<-hs1];simp<;>omega
   have as1:=fun W=>zab py [45] (by first|omega| (simp<;>omega)) W
   rw[hs1]at as1;have Hs1:=hid hs1;clear hs1;obtain⟨s2,hs2⟩:∃x:Gr.Str,s1++pm=x:=⟨_,rfl⟩
   have Ls2:s2.length<=30:=by rw[<-hs2];simp<;>omega
   have as2:=fun W=>zab s1 pm (by first|omega| (simp<;>omega)) W
   rw[hs2]at as2;have Hs2:=hid hs2;clear hs2;obtain⟨s3,hs3⟩:∃x:Gr.Str,s2++[45]=x:=⟨_,rfl⟩
   have Ls3:s3.length<=40:=by rw[<-hs3];simp<;>omega
   have as3:=fun W=>zab s2 [45] (by first|omega| (simp<;>omega)) W
   rw[hs3]at as3;have Hs3:=hid hs3;clear hs3;obtain⟨s4,hs4⟩:∃x:Gr.Str,s3++pd=x:=⟨_,rfl⟩
   have Ls4:s4.length<=60:=by rw[<-hs4];simp<;>omega
   have as4:=fun W=>zab s3 pd (by first|omega| (simp<;>omega)) W
   rw[hs4]at as4;have Hs4:=hid hs4;clear hs4;refine zaa w0.heap.size w0 (by kernel_rfl) (by kernel_rfl) (Below.refl _ _) ?_
   iterate 17 (try go_big_quiet_step ((first| (with_reducible refine Calls.grow (GHPY.out _))| (with_reducible refine Calls.grow (GHPM.out _))| (with_reducible refine Calls.grow (GHPD.out _)))))
   refine wpQuiet_nil ?_;rintro _ ⟨wz,rfl⟩;go_wp2;go_meet;exact⟨s4,rfl,Ls4,hid ⟨by rw[HX.out,HEQ.out.1,<-Hs4.out,<-Hs3.out,<-Hs2.out,<-Hs1.out],wz.h⟩⟩
 case rest=>
 obtain⟨S,rfl,hS,HS⟩:=hcut;clear q0;have q0:wc.cell? ⟨gb,0,none⟩=some (.int .i64 sh):=(HB0.out.1.below HS.out.2 HB0.out.1.lt).cell 0;go_upto_region 4 with fail;obtain⟨wk,hwk⟩:∃wk,wk=wc:=⟨_,rfl⟩
 subst hwk;go_upto_if 25 with fail;go_cut [3] (fun s3 wx=>∃U:Gr.Str,s3=.string ⟨U.toArray⟩/\U.length<=61/\Hid (U=S++(if sh=3 then[84]else[])/\wx=wk))
 case first=>
  by_cases h3:sh=3
  ·have h3b:(sh==3)=true:=by simp[h3]
   have HX:Hid ((if sh=3 then([84]:Gr.Str)else[])=[84]):=hid (by rw[if_pos h3]);clear h3;obtain⟨s5,hs5⟩:∃x:Gr.Str,S++[84]=x:=⟨_,rfl⟩
   have Ls5:s5.length<=61:=by rw[<-hs5];simp<;>omega
   have as5:=fun W=>zab S [84] (by first|omega| (simp<;>omega)) W
   rw[hs5]at as5;have Hs5:=hid hs5;clear hs5;go_wp2;go_meet;exact⟨s5,rfl,Ls5,hid ⟨by rw[HX.out,Hs5.out],rfl⟩⟩
  ·have h3b:(sh==3)=false:=by simpa using h3
   have HX:Hid ((if sh=3 then([84]:Gr.Str)else[])=[]):=hid (by rw[if_neg h3]);clear h3;go_wp2;go_meet;exact⟨S,rfl,by omega,hid ⟨by rw[HX.out];simp,rfl⟩⟩
 case rest=>
 obtain⟨U,rfl,hU,HU⟩:=hcut;obtain⟨wm,hwm⟩:∃wm,wm=wc:=⟨_,rfl⟩
 subst hwm;have HBM:Hid (Below w0.heap.size w0 wm):=hid (by rw[HU.out.2];exact HS.out.2);clear q0;have q0:wm.cell? ⟨gb,0,none⟩=some (.int .i64 sh):=(HB0.out.1.below HBM.out HB0.out.1.lt).cell 0;go_upto_region 6 with fail;go_upto_if 30 with fail;go_cut [3] (fun s3 wx=>∃V:Gr.Str,s3=.string ⟨V.toArray⟩/\V.length<=160/\Hid (U++(if sh=1 then[]else clkS h mi c nanos)=V++nanoS nanos/\Below w0.heap.size w0 wx))
 case first=>
  by_cases h1:sh=1
  ·have h1b:(sh != 1)=false:=by simp[h1]
   have HX:Hid (U++(if sh=1 then[]else clkS h mi c nanos)=U++nanoS nanos):=hid (by rw[if_pos h1,HN0.out h1];rfl);clear h1;go_wp2;go_meet;exact⟨U,rfl,by omega,hid ⟨HX.out,HBM.out⟩⟩
  ·have h1b:(sh != 1)=true:=by simpa using h1
   have HX:Hid ((if sh=1 then[]else clkS h mi c nanos)=clkS h mi c nanos):=hid (by rw[if_neg h1]);clear h1;go_upto_region 7 with fail;clear q0;have p4:∀W:WB w0.heap.size w0,W.w.cell? ⟨gb,4,none⟩=some (.int .i64 (h:Int)):=fun W=>(HB0.out.1.below W.h HB0.out.1.lt).cell 4
   have p5:∀W:WB w0.heap.size w0,W.w.cell? ⟨gb,5,none⟩=some (.int .i64 (mi:Int)):=fun W=>(HB0.out.1.below W.h HB0.out.1.lt).cell 5
   have p6:∀W:WB w0.heap.size w0,W.w.cell? ⟨gb,6,none⟩=some (.int .i64 (c:Int)):=fun W=>(HB0.out.1.below W.h HB0.out.1.lt).cell 6
   obtain⟨s6,hs6⟩:∃x:Gr.Str,ph++[58]=x:=⟨_,rfl⟩
   have Ls6:s6.length<=20:=by rw[<-hs6];simp<;>omega
   have as6:=fun W=>zab ph [58] (by first|omega| (simp<;>omega)) W
   rw[hs6]at as6;have Hs6:=hid hs6;clear hs6;obtain⟨s7,hs7⟩:∃x:Gr.Str,s6++pi=x:=⟨_,rfl⟩
   have Ls7:s7.length<=30:=by rw[<-hs7];simp<;>omega
   have as7:=fun W=>zab s6 pi (by first|omega| (simp<;>omega)) W
   rw[hs7]at as7;have Hs7:=hid hs7;clear hs7;obtain⟨s8,hs8⟩:∃x:Gr.Str,s7++[58]=x:=⟨_,rfl⟩
   have Ls8:s8.length<=40:=by rw[<-hs8];simp<;>omega
   have as8:=fun W=>zab s7 [58] (by first|omega| (simp<;>omega)) W
   rw[hs8]at as8;have Hs8:=hid hs8;clear hs8;obtain⟨s9,hs9⟩:∃x:Gr.Str,s8++pc=x:=⟨_,rfl⟩
   have Ls9:s9.length<=60:=by rw[<-hs9];simp<;>omega
   have as9:=fun W=>zab s8 pc (by first|omega| (simp<;>omega)) W
   rw[hs9]at as9;have Hs9:=hid hs9;clear hs9;obtain⟨s10,hs10⟩:∃x:Gr.Str,U++s9=x:=⟨_,rfl⟩
   have Ls10:s10.length<=160:=by rw[<-hs10];simp<;>omega
   have as10:=fun W=>zab U s9 (by first|omega| (simp<;>omega)) W
   rw[hs10]at as10;have Hs10:=hid hs10;clear hs10;refine zaa w0.heap.size w0 (by kernel_rfl) (by kernel_rfl) HBM.out ?_
   iterate 19 (try go_big_quiet_step ((first| (with_reducible refine Calls.grow (GHPH.out _))| (with_reducible refine Calls.grow (GHPI.out _))| (with_reducible refine Calls.grow (GHPC.out _)))))
   refine wpQuiet_nil ?_;rintro _ ⟨wy,rfl⟩;go_wp2;go_meet;exact⟨s10,rfl,Ls10,hid ⟨by rw[HX.out,HEQ.out.2.1,<-Hs10.out,<-Hs9.out,<-Hs8.out,<-Hs7.out,<-Hs6.out];simp,wy.h⟩⟩
 case rest=>
 obtain⟨V,rfl,hV,HV⟩:=hcut;clear q0;have q9:wc.cell? ⟨gb,9,none⟩=some (.int .i64 (nanos:Int)):=(HB0.out.1.below HV.out.2 HB0.out.1.lt).cell 9;have HZ:Hid (∀W,Below w0.heap.size w0 W->Below w.heap.size w W):=hid (fun W hW=>by rw[HGB.out];exact HB0.out.2.1.trans (hW.mono (Nat.le_of_lt HB0.out.1.lt)));have HR1:Hid (r=V++nanoS nanos):=hid (by rw[<-HR0.out,<-HV.out.1,HU.out.1,HS.out.1]);by_cases hz:0<nanos
 ·have hzI:(0:Int)<(nanos:Int):=by omega
  have HTR:Hid (∀W,Calls prog 161 #[.string ⟨pn.toArray⟩,.string ⟨#[48]⟩] W fun e w'=>e=.returned (.string ⟨(trimZ pn).toArray⟩)/\w'=W):=hid (fun W=>strings_TrimRight_one ⟨pn.toArray⟩ 48 (by decide) W (by show pn.toArray.size<=_;simp;omega));have hfl:(trimZ pn).length<=9:=by unfold trimZ;rw[List.length_reverse];exact Nat.le_trans (List.dropWhile_sublist _).length_le (by rw[List.length_reverse];omega)
  obtain⟨f,hf⟩:=ex (trimZ pn)
  have HFE:=hid hf;rw[hf]at HTR hfl;clear hf;obtain⟨s11,hs11⟩:∃x:Gr.Str,[46]++f=x:=⟨_,rfl⟩
  have Ls11:s11.length<=20:=by rw[<-hs11];simp<;>omega
  have as11:=fun W=>zab [46] f (by first|omega| (simp<;>omega)) W
  rw[hs11]at as11;have Hs11:=hid hs11;clear hs11;obtain⟨s12,hs12⟩:∃x:Gr.Str,V++s11=x:=⟨_,rfl⟩
  have Ls12:s12.length<=200:=by rw[<-hs12];simp<;>omega
  have as12:=fun W=>zab V s11 (by first|omega| (simp<;>omega)) W
  rw[hs12]at as12;have Hs12:=hid hs12;clear hs12;have HE:Hid (r=s12):=hid (by rw[HR1.out,HEQ.out.2.2,if_neg (by omega),HFE.out,<-Hs12.out,<-Hs11.out];simp);have HPW:=hid (HPN.out wc (HUT.out ⟨wc,HV.out.2⟩));clear hz;go_wp2_with fail;refine HPW.out.mono ?_;rintro e w5 ⟨rfl,hb5⟩;have HB5:Hid (Below w0.heap.size w0 w5):=hid (HV.out.2.trans (hb5.mono HV.out.2.size));clear hb5 q9;go_wp2_with fail;refine(HTR.out _).mono ?_;rintro e w6 ⟨rfl,rfl⟩;go_wp2;go_ret;exact⟨by rw[HE.out]<;>rfl,HZ.out _ HB5.out⟩
 ·have hzI:¬(0:Int)<(nanos:Int):=by omega
  have HE:Hid (r=V):=hid (by rw[HR1.out,HEQ.out.2.2,if_pos (by omega)];simp);go_wp2;go_ret;exact⟨by rw[HE.out]<;>rfl,HZ.out _ HV.out.2⟩
theorem zwc (y m d h mi c nanos:Nat) (zh zm z:Int) (hy:y<=9999) (hm:m<=99) (hd:d<=99) (hh:h<=99) (hmi:mi<=99) (hc:c<=99) (hn:nanos<=999999999) (hn0:nanos=0) (w:World) (hT:UT w):
 Calls prog 128 #[.agg #[.int .i64 1,.int .i64 (y:Int),.int .i64 (m:Int),.int .i64 (d:Int),.int .i64 (h:Int),.int .i64 (mi:Int),.int .i64 (c:Int),.int .i64 zh,.int .i64 zm,.int .i64 (nanos:Int),.int .u8 z]] w fun e w'=>e=.returned (.string ⟨((dateS y m d):Gr.Str).toArray⟩)/\Below w.heap.size w w':=by
 simpa using zfj 1 y m d h mi c nanos zh zm z hy hm hd hh hmi hc hn (fun _=>hn0) w hT
theorem zwd (y m d h mi c nanos:Nat) (zh zm z:Int) (hy:y<=9999) (hm:m<=99) (hd:d<=99) (hh:h<=99) (hmi:mi<=99) (hc:c<=99) (hn:nanos<=999999999) (w:World) (hT:UT w):
 Calls prog 128 #[.agg #[.int .i64 2,.int .i64 (y:Int),.int .i64 (m:Int),.int .i64 (d:Int),.int .i64 (h:Int),.int .i64 (mi:Int),.int .i64 (c:Int),.int .i64 zh,.int .i64 zm,.int .i64 (nanos:Int),.int .u8 z]] w fun e w'=>e=.returned (.string ⟨((clkS h mi c nanos):Gr.Str).toArray⟩)/\Below w.heap.size w w':=by
 simpa using zfj 2 y m d h mi c nanos zh zm z hy hm hd hh hmi hc hn (by intro h;omega) w hT
theorem zqo (y m d h mi c nanos:Nat) (zh zm z:Int) (hy:y<=9999) (hm:m<=99) (hd:d<=99) (hh:h<=99) (hmi:mi<=99) (hc:c<=99) (hn:nanos<=999999999) (w:World) (hT:UT w):
 Calls prog 128 #[.agg #[.int .i64 3,.int .i64 (y:Int),.int .i64 (m:Int),.int .i64 (d:Int),.int .i64 (h:Int),.int .i64 (mi:Int),.int .i64 (c:Int),.int .i64 zh,.int .i64 zm,.int .i64 (nanos:Int),.int .u8 z]] w fun e w'=>e=.returned (.string ⟨((dateS y m d++[84]++clkS h mi c nanos):Gr.Str).toArray⟩)/\Below w.heap.size w w':=by
 simpa using zfj 3 y m d h mi c nanos zh zm z hy hm hd hh hmi hc hn (by intro h;omega) w hT
noncomputable def osP (n:Int) (nanos:Nat):Gr.Str×Nat:=if n< -62167219200\/253402300800<=n then([],13)else(momS (n /86400) (n%86400).toNat nanos,0)
def zdc (r:Gr.Str×Nat) (w:World) (e:Ending) (w':World):Prop:=e=.returned (.tuple #[.string ⟨r.1.toArray⟩,.int .i64 (r.2:Nat)])/\Below w.heap.size w w'
theorem zth {n:Int} {y m d:Int} (hv:Cal.vld y m d=true) (hn:Cal.num y m d=n):∃a b c:Nat,y=a/\m=b/\d=c/\a<=9999/\b<=99/\c<=99/\dateOf n=(a,b,c):=by
 have h:=Cal.zpa hv;have hd:=Cal.zxk y m;refine⟨y.toNat,m.toNat,d.toNat,by omega,by omega,by omega,by omega,by omega,by omega,?_⟩;apply zil
 ·rw[show((y.toNat:Nat):Int)=y from by omega,show((m.toNat:Nat):Int)=m from by omega,show((d.toNat:Nat):Int)=d from by omega];exact hv
 ·rw[show((y.toNat:Nat):Int)=y from by omega,show((m.toNat:Nat):Int)=m from by omega,show((d.toNat:Nat):Int)=d from by omega,hn]
theorem zys (n:Int):-86400<n.tmod 86400/\n.tmod 86400<86400/\n=86400*n.tdiv 86400+n.tmod 86400:=by
 have h1:=Int.mul_tdiv_add_tmod n 86400;have h2:=Int.tmod_lt_of_pos n (b:=86400) (by omega);have h3:=Int.tmod_lt_of_pos (-n) (b:=86400) (by omega);rw[Int.neg_tmod]at h3;omega
theorem zhm (n:Int) (nanos:Nat) (j:Int) (hj:j=(nanos:Int)) (hna:nanos<=999999999) (h0:-900000000000<=n) (h1:n<=900000000000) (w:World) (hT:UT w):
 Calls prog 94 #[.int .i64 n,.int .i64 j] w (zdc (osP n nanos) w):=by
 subst hj;have HT:=hid hT;clear hT;have hna0:¬(nanos:Int)<0:=by omega
 have hna1:¬(999999999:Int)<(nanos:Int):=by omega
 by_cases hlo:n< -62167219200
 ·have HF:Hid (osP n nanos=([],13)):=hid (by unfold osP;rw[if_pos (.inl hlo)]);rw[HF.out];go_enter func94,ntmps94;go_wp2;go_ret2;exact⟨rfl,Below.refl _ _⟩
 ·by_cases hhi:253402300800<=n
  ·have HF:Hid (osP n nanos=([],13)):=hid (by unfold osP;rw[if_pos (.inr hhi)]);rw[HF.out];go_enter func94,ntmps94;go_wp2;go_ret2;exact⟨rfl,Below.refl _ _⟩
  ·obtain⟨D,hD⟩:=ex (n /86400)
   obtain⟨R,hR⟩:∃R:Nat,(n%86400).toNat=R:=⟨_,rfl⟩
   have hD0:-719528<=D:=by omega
   have hD1:D<=2932896:=by omega
   have hR1:R<=86399:=by omega
   have HDR:Hid (n /86400=D/\n%86400=(R:Int)):=hid ⟨hD,by omega⟩;obtain⟨M,hM⟩:=ex (momS D R nanos)
   have HM:=hid hM;have HF:Hid (osP n nanos=(M,0)):=hid (by unfold osP;rw[if_neg (by omega),hD,hR,hM]);rw[HF.out];have HDT:=hid (fun W=>ztg D hD0 hD1 W);clear hD hR hM;go_enter func94,ntmps94;go_upto_region 5 with fail;go_cut [6,7] (fun s6 s7 wx=>(∃q t:Int,s6=.int .i64 q/\s7=.int .i64 t/\Hid (n=86400*q+t/\-86400<t/\t<86400))/\wx=w)
   case first=>
    by_cases hn0:0<=n
    ·go_wp2;go_meet;exact⟨⟨_,_,rfl,rfl,hid ⟨by omega,by omega,by omega⟩⟩,rfl⟩
    ·have hb:=hid (zys n);go_wp2;go_meet;exact⟨⟨_,_,rfl,rfl,hid ⟨hb.out.2.2,hb.out.1,hb.out.2.1⟩⟩,rfl⟩
   case rest=>
   obtain⟨⟨q,t,rfl,rfl,HQT⟩,rfl⟩:=hcut;refine(‹∀(a:Act) (w_1:World),Code.wp prog _ _ a w_1->_›) _ _ ?_;have t0:-86400<t:=HQT.out.2.1;have t1:t<86400:=HQT.out.2.2;have q0:-11000000<=q:=by have:=HQT.out;omega
   have q1:q<=11000000:=by have:=HQT.out;omega
   go_upto_if 30 with fail;go_cut [6,7] (fun s6 s7 wx=>s6=.int .i64 D/\s7=.int .i64 (R:Int)/\wx=wc)
   case first=>
    by_cases ht:t<0
    ·have HE:Hid (q-1=D/\t+86400=(R:Int)):=hid (by have h1:=HQT.out;have h2:=HDR.out;omega);go_wp2;go_meet;rw[HE.out.1,HE.out.2];exact⟨rfl,rfl,rfl⟩
    ·have HE:Hid (q=D/\t=(R:Int)):=hid (by have h1:=HQT.out;have h2:=HDR.out;omega);go_wp2;go_meet;rw[HE.out.1,HE.out.2];exact⟨rfl,rfl,rfl⟩
   case rest=>
   obtain⟨rfl,rfl,rfl⟩:=hcut;refine(‹∀(a:Act) (w_1:World),Code.wp prog _ _ a w_1->_›) _ _ ?_;clear t0 t1 q0 q1;go_wp2_with fail;refine(HDT.out _).mono ?_;rintro e w1 ⟨y,m,d,rfl,hv,hnum,hb1⟩;obtain⟨a,b,c,rfl,rfl,rfl,ha,hb,hc,hdo⟩:=zth hv hnum;obtain⟨p1,hp1⟩:∃p1:Nat,R /3600=p1:=⟨_,rfl⟩
   obtain⟨p2,hp2⟩:∃p2:Nat,R /60%60=p2:=⟨_,rfl⟩
   obtain⟨p3,hp3⟩:∃p3:Nat,R%60=p3:=⟨_,rfl⟩
   have i1:(R:Int) /3600=(p1:Int):=by omega
   have i2:(R:Int) /60%60=(p2:Int):=by omega
   have i3:(R:Int)%60=(p3:Int):=by omega
   have HTX:Hid (∀W,UT W->Calls prog 128 #[.agg #[.int .i64 3,.int .i64 (a:Int),.int .i64 (b:Int),.int .i64 (c:Int),.int .i64 (p1:Int),.int .i64 (p2:Int),.int .i64 (p3:Int),.int .i64 0,.int .i64 0,.int .i64 (nanos:Int),.int .u8 0]] W fun e w'=>e=.returned (.string ⟨(dateS a b c++[84]++clkS p1 p2 p3 nanos).toArray⟩)/\Below W.heap.size W w'):=hid (fun W hW=>zqo a b c p1 p2 p3 nanos 0 0 0 ha hb hc (by omega) (by omega) (by omega) hna W hW);have HMM:Hid (M=(dateS a b c++[84]++clkS p1 p2 p3 nanos)++[90]):=hid (by rw[<-HM.out];unfold momS;rw[hdo,hp1,hp2,hp3];simp);obtain⟨S,hS⟩:=ex (dateS a b c++[84]++clkS p1 p2 p3 nanos)
   have hSl:S.length<=1000:=by
    rw[<-hS];have h2:(nanoS nanos).length<=10:=by
     unfold nanoS;split
     ·simp
     ·unfold trimZ;rw[List.length_cons,List.length_reverse];have:=(List.dropWhile_sublist (fun c:UInt8=>c==48) (l:=(Gr.pd 9 nanos).reverse)).length_le;rw[List.length_reverse,za4]at this;omega
    simp[dateS,clkS,za4];omega
   rw[hS]at HTX HMM;have HB1:Hid (Below wc.heap.size wc w1/\UT w1):=hid ⟨hb1,UT.stays _ _ HT.out hb1⟩;have hadd:=fun W=>zab S [90] (by simp;omega) W
   clear hv hnum hdo hp1 hp2 hp3 hS hb1;go_wp2_with fail;refine(HTX.out _ (UT.stays _ _ HB1.out.2 ((Below.refl _ _).alloc (Nat.le_refl _) _))).mono ?_;rintro e w2 ⟨rfl,hb2⟩;have HB2:Hid (Below wc.heap.size wc w2):=hid ((HB1.out.1.alloc HB1.out.1.size _).trans (hb2.mono (by have:=HB1.out.1.size;simp;omega)));clear hb2;go_wp2;go_ret2;unfold zdc;rw[HMM.out];exact⟨rfl,HB2.out⟩
end Go.Proofs.YtoigpackhninoaaGreatDoor

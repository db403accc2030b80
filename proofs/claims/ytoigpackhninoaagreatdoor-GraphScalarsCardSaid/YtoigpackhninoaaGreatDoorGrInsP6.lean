/- Walks: a moment's text. -/
import Derived.Test.YtoigpackhninoaaGreatDoorZ09
namespace Go.Proofs.YtoigpackhninoaaGreatDoor
set_option maxRecDepth 100000
set_option maxHeartbeats 16000000
open Go.RowKit
theorem ptext_1 (y m d h mi c nanos:Nat) (zh zm z:Int) (hy:y<=9999) (hm:m<=99) (hd:d<=99) (hh:h<=99) (hmi:mi<=99) (hc:c<=99) (hn:nanos<=999999999) (hn0:nanos=0) (w:World) (hT:UT w):
 Calls Tryz.prog 128 #[.agg #[.int .i64 1,.int .i64 (y:Int),.int .i64 (m:Int),.int .i64 (d:Int),.int .i64 (h:Int),.int .i64 (mi:Int),.int .i64 (c:Int),.int .i64 zh,.int .i64 zm,.int .i64 (nanos:Int),.int .u8 z]] w fun e w'=>e=.returned (.string ⟨((Gr.dateS y m d):Gr.Str).toArray⟩)/\Below w.heap.size w w':=by
 have HT:=Lib.hid hT;clear hT;have HN0:=Lib.hid hn0;clear hn0;have HPY:=Lib.hid (fun(W:World) (hW:UT W)=>ppad_any y 4 (y:Int) 4 rfl rfl (by omega) (by omega) (by omega) W hW);have LHPY:=Gr.pd_len 4 y;have HPM:=Lib.hid (fun(W:World) (hW:UT W)=>ppad_any m 2 (m:Int) 2 rfl rfl (by omega) (by omega) (by omega) W hW);have LHPM:=Gr.pd_len 2 m;have HPD:=Lib.hid (fun(W:World) (hW:UT W)=>ppad_any d 2 (d:Int) 2 rfl rfl (by omega) (by omega) (by omega) W hW);have LHPD:=Gr.pd_len 2 d;have HPH:=Lib.hid (fun(W:World) (hW:UT W)=>ppad_any h 2 (h:Int) 2 rfl rfl (by omega) (by omega) (by omega) W hW);have LHPH:=Gr.pd_len 2 h;have HPI:=Lib.hid (fun(W:World) (hW:UT W)=>ppad_any mi 2 (mi:Int) 2 rfl rfl (by omega) (by omega) (by omega) W hW);have LHPI:=Gr.pd_len 2 mi;have HPC:=Lib.hid (fun(W:World) (hW:UT W)=>ppad_any c 2 (c:Int) 2 rfl rfl (by omega) (by omega) (by omega) W hW);have LHPC:=Gr.pd_len 2 c;have HPN:=Lib.hid (fun(W:World) (hW:UT W)=>ppad_any nanos 9 (nanos:Int) 9 rfl rfl (by omega) (by omega) (by omega) W hW);have LHPN:=Gr.pd_len 9 nanos;obtain⟨py,epy⟩:∃py,Gr.pd 4 y=py:=⟨_,rfl⟩
 rw[epy]at HPY LHPY;obtain⟨pm,epm⟩:∃pm,Gr.pd 2 m=pm:=⟨_,rfl⟩
 rw[epm]at HPM LHPM;obtain⟨pd,epd⟩:∃pd,Gr.pd 2 d=pd:=⟨_,rfl⟩
 rw[epd]at HPD LHPD;obtain⟨ph,eph⟩:∃ph,Gr.pd 2 h=ph:=⟨_,rfl⟩
 rw[eph]at HPH LHPH;obtain⟨pi,epi⟩:∃pi,Gr.pd 2 mi=pi:=⟨_,rfl⟩
 rw[epi]at HPI LHPI;obtain⟨pc,epc⟩:∃pc,Gr.pd 2 c=pc:=⟨_,rfl⟩
 rw[epc]at HPC LHPC;obtain⟨pn,epn⟩:∃pn,Gr.pd 9 nanos=pn:=⟨_,rfl⟩
 rw[epn]at HPN LHPN;have HEQ:Hid (Gr.pd 4 y=py/\Gr.pd 2 m=pm/\Gr.pd 2 d=pd/\Gr.pd 2 h=ph/\Gr.pd 2 mi=pi/\Gr.pd 2 c=pc/\Gr.pd 9 nanos=pn):=Lib.hid ⟨epy,epm,epd,eph,epi,epc,epn⟩;clear epy epm epd eph epi epc epn;obtain⟨r,hr⟩:∃r,(Gr.dateS y m d)=r:=⟨_,rfl⟩
 have HR:=Lib.hid hr;rw[hr];clear hr;go_enter Tryz.func128,Tryz.ntmps128;go_upto_region 1 with fail;obtain⟨gb,hgb⟩:∃gb,w.heap.size=gb:=⟨_,rfl⟩
 obtain⟨w0,hw0⟩:∃w0,w0=w.alloc (.cells #[.int .i64 1,.int .i64 (y:Int),.int .i64 (m:Int),.int .i64 (d:Int),.int .i64 (h:Int),.int .i64 (mi:Int),.int .i64 (c:Int),.int .i64 zh,.int .i64 zm,.int .i64 (nanos:Int),.int .u8 z] 135):=⟨_,rfl⟩
 have HB0:Hid (Blk w0 gb 135 #[.int .i64 1,.int .i64 (y:Int),.int .i64 (m:Int),.int .i64 (d:Int),.int .i64 (h:Int),.int .i64 (mi:Int),.int .i64 (c:Int),.int .i64 zh,.int .i64 zm,.int .i64 (nanos:Int),.int .u8 z]/\Below gb w w0/\UT w0):=Lib.hid (by
  rw[hw0,<-hgb];exact⟨Blk.new _ _ _,(Below.refl _ _).alloc (Nat.le_refl _) _,UT.stays _ _ HT.out ((Below.refl _ _).alloc (Nat.le_refl _) _)⟩)
 have HGB:=Lib.hid hgb;(try rw[<-hw0]);(try rw[hgb]);clear hw0 hgb;have HQ:Hid (∀W:WB w0.heap.size w0,W.w.cell? ⟨gb,0,none⟩=some (.int .i64 1)/\W.w.cell? ⟨gb,1,none⟩=some (.int .i64 (y:Int))/\W.w.cell? ⟨gb,2,none⟩=some (.int .i64 (m:Int))/\W.w.cell? ⟨gb,3,none⟩=some (.int .i64 (d:Int))/\W.w.cell? ⟨gb,4,none⟩=some (.int .i64 (h:Int))/\W.w.cell? ⟨gb,5,none⟩=some (.int .i64 (mi:Int))/\W.w.cell? ⟨gb,6,none⟩=some (.int .i64 (c:Int))/\W.w.cell? ⟨gb,9,none⟩=some (.int .i64 (nanos:Int))):=Lib.hid (fun W=>by
  have hx:=HB0.out.1.below W.h HB0.out.1.lt;exact⟨hx.cell 0,hx.cell 1,hx.cell 2,hx.cell 3,hx.cell 4,hx.cell 5,hx.cell 6,hx.cell 9⟩)
 have HUT:Hid (∀W:WB w0.heap.size w0,UT W.w):=Lib.hid (fun W=>UT.stays _ _ HB0.out.2.2 W.h);obtain⟨q0,q1,q2,q3,q4,q5,q6,q9⟩:=HQ.out ⟨w0,Below.refl _ _⟩;simp only at q0 q1 q2 q3 q4 q5 q6 q9;go_upto_region 3 with fail;clear q0 q1 q2 q3 q4 q5 q6 q9;have p1:∀W:WB w0.heap.size w0,W.w.cell? ⟨gb,1,none⟩=some (.int .i64 (y:Int)):=fun W=>(HQ.out W).2.1
 have p2:∀W:WB w0.heap.size w0,W.w.cell? ⟨gb,2,none⟩=some (.int .i64 (m:Int)):=fun W=>(HQ.out W).2.2.1
 have p3:∀W:WB w0.heap.size w0,W.w.cell? ⟨gb,3,none⟩=some (.int .i64 (d:Int)):=fun W=>(HQ.out W).2.2.2.1
 obtain⟨s1,hs1⟩:∃x:Gr.Str,py++[45]=x:=⟨_,rfl⟩
 have Ls1:s1.length<=300:=by rw[<-hs1];simp<;>omega
 have as1:=fun W=>add_run py [45] (by first|omega| (simp<;>omega)) W
 rw[hs1]at as1;have Hs1:=Lib.hid hs1;clear hs1;obtain⟨s2,hs2⟩:∃x:Gr.Str,s1++pm=x:=⟨_,rfl⟩
 have Ls2:s2.length<=900:=by rw[<-hs2];simp<;>omega
 have as2:=fun W=>add_run s1 pm (by first|omega| (simp<;>omega)) W
 rw[hs2]at as2;have Hs2:=Lib.hid hs2;clear hs2;obtain⟨s3,hs3⟩:∃x:Gr.Str,s2++[45]=x:=⟨_,rfl⟩
 have Ls3:s3.length<=2700:=by rw[<-hs3];simp<;>omega
 have as3:=fun W=>add_run s2 [45] (by first|omega| (simp<;>omega)) W
 rw[hs3]at as3;have Hs3:=Lib.hid hs3;clear hs3;obtain⟨s4,hs4⟩:∃x:Gr.Str,s3++pd=x:=⟨_,rfl⟩
 have Ls4:s4.length<=8100:=by rw[<-hs4];simp<;>omega
 have as4:=fun W=>add_run s3 pd (by first|omega| (simp<;>omega)) W
 rw[hs4]at as4;have Hs4:=Lib.hid hs4;clear hs4;refine wp_region_grow w0.heap.size w0 (by kernel_rfl) (by kernel_rfl) (Below.refl _ _) ?_
 iterate 17 (try go_big_quiet_step ((first| (with_reducible refine Calls.grow ((HPY.out _ (HUT.out _)).mono (fun _ _ ⟨e1,e2⟩=>⟨e1,(WB.h _).trans (e2.mono (WB.h _).size)⟩)))| (with_reducible refine Calls.grow ((HPM.out _ (HUT.out _)).mono (fun _ _ ⟨e1,e2⟩=>⟨e1,(WB.h _).trans (e2.mono (WB.h _).size)⟩)))| (with_reducible refine Calls.grow ((HPD.out _ (HUT.out _)).mono (fun _ _ ⟨e1,e2⟩=>⟨e1,(WB.h _).trans (e2.mono (WB.h _).size)⟩))))))
 refine wpQuiet_nil ?_;rintro _ ⟨wz,rfl⟩;clear p1 p2 p3 as1 as2 as3 as4;obtain⟨q0,q1,q2,q3,q4,q5,q6,q9⟩:=HQ.out wz;have hzI:¬(0:Int)<(nanos:Int):=by have:=HN0.out;omega
 have HE:Hid (r=s4):=Lib.hid (by
  rw[<-HR.out,<-Hs4.out,<-Hs3.out,<-Hs2.out,<-Hs1.out];simp only[Gr.dateS,HEQ.out.1,HEQ.out.2.1,HEQ.out.2.2.1];simp)
 go_wp2_with fail;go_ret;rw[HE.out,HGB.out];exact⟨rfl,HB0.out.2.1.trans (wz.h.mono (Nat.le_of_lt HB0.out.1.lt))⟩
theorem ptext_2 (y m d h mi c nanos:Nat) (zh zm z:Int) (hy:y<=9999) (hm:m<=99) (hd:d<=99) (hh:h<=99) (hmi:mi<=99) (hc:c<=99) (hn:nanos<=999999999) (w:World) (hT:UT w):
 Calls Tryz.prog 128 #[.agg #[.int .i64 2,.int .i64 (y:Int),.int .i64 (m:Int),.int .i64 (d:Int),.int .i64 (h:Int),.int .i64 (mi:Int),.int .i64 (c:Int),.int .i64 zh,.int .i64 zm,.int .i64 (nanos:Int),.int .u8 z]] w fun e w'=>e=.returned (.string ⟨((Gr.clkS h mi c nanos):Gr.Str).toArray⟩)/\Below w.heap.size w w':=by
 have HT:=Lib.hid hT;clear hT;have HPY:=Lib.hid (fun(W:World) (hW:UT W)=>ppad_any y 4 (y:Int) 4 rfl rfl (by omega) (by omega) (by omega) W hW);have LHPY:=Gr.pd_len 4 y;have HPM:=Lib.hid (fun(W:World) (hW:UT W)=>ppad_any m 2 (m:Int) 2 rfl rfl (by omega) (by omega) (by omega) W hW);have LHPM:=Gr.pd_len 2 m;have HPD:=Lib.hid (fun(W:World) (hW:UT W)=>ppad_any d 2 (d:Int) 2 rfl rfl (by omega) (by omega) (by omega) W hW);have LHPD:=Gr.pd_len 2 d;have HPH:=Lib.hid (fun(W:World) (hW:UT W)=>ppad_any h 2 (h:Int) 2 rfl rfl (by omega) (by omega) (by omega) W hW);have LHPH:=Gr.pd_len 2 h;have HPI:=Lib.hid (fun(W:World) (hW:UT W)=>ppad_any mi 2 (mi:Int) 2 rfl rfl (by omega) (by omega) (by omega) W hW);have LHPI:=Gr.pd_len 2 mi;have HPC:=Lib.hid (fun(W:World) (hW:UT W)=>ppad_any c 2 (c:Int) 2 rfl rfl (by omega) (by omega) (by omega) W hW);have LHPC:=Gr.pd_len 2 c;have HPN:=Lib.hid (fun(W:World) (hW:UT W)=>ppad_any nanos 9 (nanos:Int) 9 rfl rfl (by omega) (by omega) (by omega) W hW);have LHPN:=Gr.pd_len 9 nanos;obtain⟨py,epy⟩:∃py,Gr.pd 4 y=py:=⟨_,rfl⟩
 rw[epy]at HPY LHPY;obtain⟨pm,epm⟩:∃pm,Gr.pd 2 m=pm:=⟨_,rfl⟩
 rw[epm]at HPM LHPM;obtain⟨pd,epd⟩:∃pd,Gr.pd 2 d=pd:=⟨_,rfl⟩
 rw[epd]at HPD LHPD;obtain⟨ph,eph⟩:∃ph,Gr.pd 2 h=ph:=⟨_,rfl⟩
 rw[eph]at HPH LHPH;obtain⟨pi,epi⟩:∃pi,Gr.pd 2 mi=pi:=⟨_,rfl⟩
 rw[epi]at HPI LHPI;obtain⟨pc,epc⟩:∃pc,Gr.pd 2 c=pc:=⟨_,rfl⟩
 rw[epc]at HPC LHPC;obtain⟨pn,epn⟩:∃pn,Gr.pd 9 nanos=pn:=⟨_,rfl⟩
 rw[epn]at HPN LHPN;have HEQ:Hid (Gr.pd 4 y=py/\Gr.pd 2 m=pm/\Gr.pd 2 d=pd/\Gr.pd 2 h=ph/\Gr.pd 2 mi=pi/\Gr.pd 2 c=pc/\Gr.pd 9 nanos=pn):=Lib.hid ⟨epy,epm,epd,eph,epi,epc,epn⟩;clear epy epm epd eph epi epc epn;obtain⟨r,hr⟩:∃r,(Gr.clkS h mi c nanos)=r:=⟨_,rfl⟩
 have HR:=Lib.hid hr;rw[hr];clear hr;go_enter Tryz.func128,Tryz.ntmps128;go_upto_region 1 with fail;obtain⟨gb,hgb⟩:∃gb,w.heap.size=gb:=⟨_,rfl⟩
 obtain⟨w0,hw0⟩:∃w0,w0=w.alloc (.cells #[.int .i64 2,.int .i64 (y:Int),.int .i64 (m:Int),.int .i64 (d:Int),.int .i64 (h:Int),.int .i64 (mi:Int),.int .i64 (c:Int),.int .i64 zh,.int .i64 zm,.int .i64 (nanos:Int),.int .u8 z] 135):=⟨_,rfl⟩
 have HB0:Hid (Blk w0 gb 135 #[.int .i64 2,.int .i64 (y:Int),.int .i64 (m:Int),.int .i64 (d:Int),.int .i64 (h:Int),.int .i64 (mi:Int),.int .i64 (c:Int),.int .i64 zh,.int .i64 zm,.int .i64 (nanos:Int),.int .u8 z]/\Below gb w w0/\UT w0):=Lib.hid (by
  rw[hw0,<-hgb];exact⟨Blk.new _ _ _,(Below.refl _ _).alloc (Nat.le_refl _) _,UT.stays _ _ HT.out ((Below.refl _ _).alloc (Nat.le_refl _) _)⟩)
 have HGB:=Lib.hid hgb;(try rw[<-hw0]);(try rw[hgb]);clear hw0 hgb;have HQ:Hid (∀W:WB w0.heap.size w0,W.w.cell? ⟨gb,0,none⟩=some (.int .i64 2)/\W.w.cell? ⟨gb,1,none⟩=some (.int .i64 (y:Int))/\W.w.cell? ⟨gb,2,none⟩=some (.int .i64 (m:Int))/\W.w.cell? ⟨gb,3,none⟩=some (.int .i64 (d:Int))/\W.w.cell? ⟨gb,4,none⟩=some (.int .i64 (h:Int))/\W.w.cell? ⟨gb,5,none⟩=some (.int .i64 (mi:Int))/\W.w.cell? ⟨gb,6,none⟩=some (.int .i64 (c:Int))/\W.w.cell? ⟨gb,9,none⟩=some (.int .i64 (nanos:Int))):=Lib.hid (fun W=>by
  have hx:=HB0.out.1.below W.h HB0.out.1.lt;exact⟨hx.cell 0,hx.cell 1,hx.cell 2,hx.cell 3,hx.cell 4,hx.cell 5,hx.cell 6,hx.cell 9⟩)
 have HUT:Hid (∀W:WB w0.heap.size w0,UT W.w):=Lib.hid (fun W=>UT.stays _ _ HB0.out.2.2 W.h);obtain⟨q0,q1,q2,q3,q4,q5,q6,q9⟩:=HQ.out ⟨w0,Below.refl _ _⟩;simp only at q0 q1 q2 q3 q4 q5 q6 q9;go_upto_region 7 with fail;clear q0 q1 q2 q3 q4 q5 q6 q9;have p4:∀W:WB w0.heap.size w0,W.w.cell? ⟨gb,4,none⟩=some (.int .i64 (h:Int)):=fun W=>(HQ.out W).2.2.2.2.1
 have p5:∀W:WB w0.heap.size w0,W.w.cell? ⟨gb,5,none⟩=some (.int .i64 (mi:Int)):=fun W=>(HQ.out W).2.2.2.2.2.1
 have p6:∀W:WB w0.heap.size w0,W.w.cell? ⟨gb,6,none⟩=some (.int .i64 (c:Int)):=fun W=>(HQ.out W).2.2.2.2.2.2.1
 obtain⟨s1,hs1⟩:∃x:Gr.Str,ph++[58]=x:=⟨_,rfl⟩
 have Ls1:s1.length<=300:=by rw[<-hs1];simp<;>omega
 have as1:=fun W=>add_run ph [58] (by first|omega| (simp<;>omega)) W
 rw[hs1]at as1;have Hs1:=Lib.hid hs1;clear hs1;obtain⟨s2,hs2⟩:∃x:Gr.Str,s1++pi=x:=⟨_,rfl⟩
 have Ls2:s2.length<=900:=by rw[<-hs2];simp<;>omega
 have as2:=fun W=>add_run s1 pi (by first|omega| (simp<;>omega)) W
 rw[hs2]at as2;have Hs2:=Lib.hid hs2;clear hs2;obtain⟨s3,hs3⟩:∃x:Gr.Str,s2++[58]=x:=⟨_,rfl⟩
 have Ls3:s3.length<=2700:=by rw[<-hs3];simp<;>omega
 have as3:=fun W=>add_run s2 [58] (by first|omega| (simp<;>omega)) W
 rw[hs3]at as3;have Hs3:=Lib.hid hs3;clear hs3;obtain⟨s4,hs4⟩:∃x:Gr.Str,s3++pc=x:=⟨_,rfl⟩
 have Ls4:s4.length<=8100:=by rw[<-hs4];simp<;>omega
 have as4:=fun W=>add_run s3 pc (by first|omega| (simp<;>omega)) W
 rw[hs4]at as4;have Hs4:=Lib.hid hs4;clear hs4;obtain⟨s5,hs5⟩:∃x:Gr.Str,([]:Gr.Str)++s4=x:=⟨_,rfl⟩
 have Ls5:s5.length<=24300:=by rw[<-hs5];simp<;>omega
 have as5:=fun W=>add_run ([]:Gr.Str) s4 (by first|omega| (simp<;>omega)) W
 rw[hs5]at as5;have Hs5:=Lib.hid hs5;clear hs5;refine wp_region_grow w0.heap.size w0 (by kernel_rfl) (by kernel_rfl) (Below.refl _ _) ?_
 iterate 19 (try go_big_quiet_step ((first| (with_reducible refine Calls.grow ((HPH.out _ (HUT.out _)).mono (fun _ _ ⟨e1,e2⟩=>⟨e1,(WB.h _).trans (e2.mono (WB.h _).size)⟩)))| (with_reducible refine Calls.grow ((HPI.out _ (HUT.out _)).mono (fun _ _ ⟨e1,e2⟩=>⟨e1,(WB.h _).trans (e2.mono (WB.h _).size)⟩)))| (with_reducible refine Calls.grow ((HPC.out _ (HUT.out _)).mono (fun _ _ ⟨e1,e2⟩=>⟨e1,(WB.h _).trans (e2.mono (WB.h _).size)⟩))))))
 refine wpQuiet_nil ?_;rintro _ ⟨wy,rfl⟩;clear p4 p5 p6 as1 as2 as3 as4 as5;obtain⟨q0,q1,q2,q3,q4,q5,q6,q9⟩:=HQ.out wy;by_cases hz:0<nanos
 ·have hzI:(0:Int)<(nanos:Int):=by omega
  have HTR:Hid (∀W,Calls Tryz.prog 161 #[.string ⟨pn.toArray⟩,.string ⟨#[48]⟩] W fun e w'=>e=.returned (.string ⟨(Gr.trimZ pn).toArray⟩)/\w'=W):=Lib.hid (fun W=>Tryz.strings_TrimRight_one ⟨pn.toArray⟩ 48 (by decide) W (by show pn.toArray.size<=_;simp;omega));have hfl:(Gr.trimZ pn).length<=9:=by unfold Gr.trimZ;rw[List.length_reverse];exact Nat.le_trans (List.dropWhile_sublist _).length_le (by rw[List.length_reverse];omega)
  obtain⟨f,hf⟩:∃f,Gr.trimZ pn=f:=⟨_,rfl⟩
  have HFE:=Lib.hid hf;rw[hf]at HTR hfl;clear hf;obtain⟨s6,hs6⟩:∃x:Gr.Str,[46]++f=x:=⟨_,rfl⟩
  have Ls6:s6.length<=72900:=by rw[<-hs6];simp<;>omega
  have as6:=fun W=>add_run [46] f (by first|omega| (simp<;>omega)) W
  rw[hs6]at as6;have Hs6:=Lib.hid hs6;clear hs6;obtain⟨s7,hs7⟩:∃x:Gr.Str,s5++s6=x:=⟨_,rfl⟩
  have Ls7:s7.length<=218700:=by rw[<-hs7];simp<;>omega
  have as7:=fun W=>add_run s5 s6 (by first|omega| (simp<;>omega)) W
  rw[hs7]at as7;have Hs7:=Lib.hid hs7;clear hs7;have HE:Hid (r=s7):=Lib.hid (by
   rw[<-HR.out,<-Hs7.out,<-Hs6.out,<-Hs5.out,<-Hs4.out,<-Hs3.out,<-Hs2.out,<-Hs1.out];simp only[Gr.clkS,Gr.nanoS,HEQ.out.2.2.2.1,HEQ.out.2.2.2.2.1,HEQ.out.2.2.2.2.2.1,HEQ.out.2.2.2.2.2.2];rw[if_neg (by omega),HFE.out];simp)
  clear hz;go_wp2_with fail;refine(HPN.out _ (HUT.out wy)).mono ?_;rintro e w5 ⟨rfl,hb5⟩;have HB5:Hid (Below w0.heap.size w0 w5):=Lib.hid (wy.h.trans (hb5.mono wy.h.size));clear hb5 q0 q1 q2 q3 q4 q5 q6 q9;go_wp2_with fail;refine(HTR.out _).mono ?_;rintro e w6 ⟨rfl,rfl⟩;go_wp2_with fail;go_ret;rw[HE.out,HGB.out];exact⟨rfl,HB0.out.2.1.trans (HB5.out.mono (Nat.le_of_lt HB0.out.1.lt))⟩
 ·have hzI:¬(0:Int)<(nanos:Int):=by omega
  have HE:Hid (r=s5):=Lib.hid (by
   rw[<-HR.out,<-Hs5.out,<-Hs4.out,<-Hs3.out,<-Hs2.out,<-Hs1.out];simp only[Gr.clkS,Gr.nanoS,HEQ.out.2.2.2.1,HEQ.out.2.2.2.2.1,HEQ.out.2.2.2.2.2.1];rw[if_pos (by omega)];simp)
  go_wp2_with fail;go_ret;rw[HE.out,HGB.out];exact⟨rfl,HB0.out.2.1.trans (wy.h.mono (Nat.le_of_lt HB0.out.1.lt))⟩
theorem ptext_3 (y m d h mi c nanos:Nat) (zh zm z:Int) (hy:y<=9999) (hm:m<=99) (hd:d<=99) (hh:h<=99) (hmi:mi<=99) (hc:c<=99) (hn:nanos<=999999999) (w:World) (hT:UT w):
 Calls Tryz.prog 128 #[.agg #[.int .i64 3,.int .i64 (y:Int),.int .i64 (m:Int),.int .i64 (d:Int),.int .i64 (h:Int),.int .i64 (mi:Int),.int .i64 (c:Int),.int .i64 zh,.int .i64 zm,.int .i64 (nanos:Int),.int .u8 z]] w fun e w'=>e=.returned (.string ⟨((Gr.dateS y m d++[84]++Gr.clkS h mi c nanos):Gr.Str).toArray⟩)/\Below w.heap.size w w':=by
 have HT:=Lib.hid hT;clear hT;have HPY:=Lib.hid (fun(W:World) (hW:UT W)=>ppad_any y 4 (y:Int) 4 rfl rfl (by omega) (by omega) (by omega) W hW);have LHPY:=Gr.pd_len 4 y;have HPM:=Lib.hid (fun(W:World) (hW:UT W)=>ppad_any m 2 (m:Int) 2 rfl rfl (by omega) (by omega) (by omega) W hW);have LHPM:=Gr.pd_len 2 m;have HPD:=Lib.hid (fun(W:World) (hW:UT W)=>ppad_any d 2 (d:Int) 2 rfl rfl (by omega) (by omega) (by omega) W hW);have LHPD:=Gr.pd_len 2 d;have HPH:=Lib.hid (fun(W:World) (hW:UT W)=>ppad_any h 2 (h:Int) 2 rfl rfl (by omega) (by omega) (by omega) W hW);have LHPH:=Gr.pd_len 2 h;have HPI:=Lib.hid (fun(W:World) (hW:UT W)=>ppad_any mi 2 (mi:Int) 2 rfl rfl (by omega) (by omega) (by omega) W hW);have LHPI:=Gr.pd_len 2 mi;have HPC:=Lib.hid (fun(W:World) (hW:UT W)=>ppad_any c 2 (c:Int) 2 rfl rfl (by omega) (by omega) (by omega) W hW);have LHPC:=Gr.pd_len 2 c;have HPN:=Lib.hid (fun(W:World) (hW:UT W)=>ppad_any nanos 9 (nanos:Int) 9 rfl rfl (by omega) (by omega) (by omega) W hW);have LHPN:=Gr.pd_len 9 nanos;obtain⟨py,epy⟩:∃py,Gr.pd 4 y=py:=⟨_,rfl⟩
 rw[epy]at HPY LHPY;obtain⟨pm,epm⟩:∃pm,Gr.pd 2 m=pm:=⟨_,rfl⟩
 rw[epm]at HPM LHPM;obtain⟨pd,epd⟩:∃pd,Gr.pd 2 d=pd:=⟨_,rfl⟩
 rw[epd]at HPD LHPD;obtain⟨ph,eph⟩:∃ph,Gr.pd 2 h=ph:=⟨_,rfl⟩
 rw[eph]at HPH LHPH;obtain⟨pi,epi⟩:∃pi,Gr.pd 2 mi=pi:=⟨_,rfl⟩
 rw[epi]at HPI LHPI;obtain⟨pc,epc⟩:∃pc,Gr.pd 2 c=pc:=⟨_,rfl⟩
 rw[epc]at HPC LHPC;obtain⟨pn,epn⟩:∃pn,Gr.pd 9 nanos=pn:=⟨_,rfl⟩
 rw[epn]at HPN LHPN;have HEQ:Hid (Gr.pd 4 y=py/\Gr.pd 2 m=pm/\Gr.pd 2 d=pd/\Gr.pd 2 h=ph/\Gr.pd 2 mi=pi/\Gr.pd 2 c=pc/\Gr.pd 9 nanos=pn):=Lib.hid ⟨epy,epm,epd,eph,epi,epc,epn⟩;clear epy epm epd eph epi epc epn;obtain⟨r,hr⟩:∃r,(Gr.dateS y m d++[84]++Gr.clkS h mi c nanos)=r:=⟨_,rfl⟩
 have HR:=Lib.hid hr;rw[hr];clear hr;go_enter Tryz.func128,Tryz.ntmps128;go_upto_region 1 with fail;obtain⟨gb,hgb⟩:∃gb,w.heap.size=gb:=⟨_,rfl⟩
 obtain⟨w0,hw0⟩:∃w0,w0=w.alloc (.cells #[.int .i64 3,.int .i64 (y:Int),.int .i64 (m:Int),.int .i64 (d:Int),.int .i64 (h:Int),.int .i64 (mi:Int),.int .i64 (c:Int),.int .i64 zh,.int .i64 zm,.int .i64 (nanos:Int),.int .u8 z] 135):=⟨_,rfl⟩
 have HB0:Hid (Blk w0 gb 135 #[.int .i64 3,.int .i64 (y:Int),.int .i64 (m:Int),.int .i64 (d:Int),.int .i64 (h:Int),.int .i64 (mi:Int),.int .i64 (c:Int),.int .i64 zh,.int .i64 zm,.int .i64 (nanos:Int),.int .u8 z]/\Below gb w w0/\UT w0):=Lib.hid (by
  rw[hw0,<-hgb];exact⟨Blk.new _ _ _,(Below.refl _ _).alloc (Nat.le_refl _) _,UT.stays _ _ HT.out ((Below.refl _ _).alloc (Nat.le_refl _) _)⟩)
 have HGB:=Lib.hid hgb;(try rw[<-hw0]);(try rw[hgb]);clear hw0 hgb;have HQ:Hid (∀W:WB w0.heap.size w0,W.w.cell? ⟨gb,0,none⟩=some (.int .i64 3)/\W.w.cell? ⟨gb,1,none⟩=some (.int .i64 (y:Int))/\W.w.cell? ⟨gb,2,none⟩=some (.int .i64 (m:Int))/\W.w.cell? ⟨gb,3,none⟩=some (.int .i64 (d:Int))/\W.w.cell? ⟨gb,4,none⟩=some (.int .i64 (h:Int))/\W.w.cell? ⟨gb,5,none⟩=some (.int .i64 (mi:Int))/\W.w.cell? ⟨gb,6,none⟩=some (.int .i64 (c:Int))/\W.w.cell? ⟨gb,9,none⟩=some (.int .i64 (nanos:Int))):=Lib.hid (fun W=>by
  have hx:=HB0.out.1.below W.h HB0.out.1.lt;exact⟨hx.cell 0,hx.cell 1,hx.cell 2,hx.cell 3,hx.cell 4,hx.cell 5,hx.cell 6,hx.cell 9⟩)
 have HUT:Hid (∀W:WB w0.heap.size w0,UT W.w):=Lib.hid (fun W=>UT.stays _ _ HB0.out.2.2 W.h);obtain⟨q0,q1,q2,q3,q4,q5,q6,q9⟩:=HQ.out ⟨w0,Below.refl _ _⟩;simp only at q0 q1 q2 q3 q4 q5 q6 q9;go_upto_region 3 with fail;clear q0 q1 q2 q3 q4 q5 q6 q9;have p1:∀W:WB w0.heap.size w0,W.w.cell? ⟨gb,1,none⟩=some (.int .i64 (y:Int)):=fun W=>(HQ.out W).2.1
 have p2:∀W:WB w0.heap.size w0,W.w.cell? ⟨gb,2,none⟩=some (.int .i64 (m:Int)):=fun W=>(HQ.out W).2.2.1
 have p3:∀W:WB w0.heap.size w0,W.w.cell? ⟨gb,3,none⟩=some (.int .i64 (d:Int)):=fun W=>(HQ.out W).2.2.2.1
 obtain⟨s1,hs1⟩:∃x:Gr.Str,py++[45]=x:=⟨_,rfl⟩
 have Ls1:s1.length<=300:=by rw[<-hs1];simp<;>omega
 have as1:=fun W=>add_run py [45] (by first|omega| (simp<;>omega)) W
 rw[hs1]at as1;have Hs1:=Lib.hid hs1;clear hs1;obtain⟨s2,hs2⟩:∃x:Gr.Str,s1++pm=x:=⟨_,rfl⟩
 have Ls2:s2.length<=900:=by rw[<-hs2];simp<;>omega
 have as2:=fun W=>add_run s1 pm (by first|omega| (simp<;>omega)) W
 rw[hs2]at as2;have Hs2:=Lib.hid hs2;clear hs2;obtain⟨s3,hs3⟩:∃x:Gr.Str,s2++[45]=x:=⟨_,rfl⟩
 have Ls3:s3.length<=2700:=by rw[<-hs3];simp<;>omega
 have as3:=fun W=>add_run s2 [45] (by first|omega| (simp<;>omega)) W
 rw[hs3]at as3;have Hs3:=Lib.hid hs3;clear hs3;obtain⟨s4,hs4⟩:∃x:Gr.Str,s3++pd=x:=⟨_,rfl⟩
 have Ls4:s4.length<=8100:=by rw[<-hs4];simp<;>omega
 have as4:=fun W=>add_run s3 pd (by first|omega| (simp<;>omega)) W
 rw[hs4]at as4;have Hs4:=Lib.hid hs4;clear hs4;refine wp_region_grow w0.heap.size w0 (by kernel_rfl) (by kernel_rfl) (Below.refl _ _) ?_
 iterate 17 (try go_big_quiet_step ((first| (with_reducible refine Calls.grow ((HPY.out _ (HUT.out _)).mono (fun _ _ ⟨e1,e2⟩=>⟨e1,(WB.h _).trans (e2.mono (WB.h _).size)⟩)))| (with_reducible refine Calls.grow ((HPM.out _ (HUT.out _)).mono (fun _ _ ⟨e1,e2⟩=>⟨e1,(WB.h _).trans (e2.mono (WB.h _).size)⟩)))| (with_reducible refine Calls.grow ((HPD.out _ (HUT.out _)).mono (fun _ _ ⟨e1,e2⟩=>⟨e1,(WB.h _).trans (e2.mono (WB.h _).size)⟩))))))
 refine wpQuiet_nil ?_;rintro _ ⟨wz,rfl⟩;clear p1 p2 p3 as1 as2 as3 as4;obtain⟨q0,q1,q2,q3,q4,q5,q6,q9⟩:=HQ.out wz;obtain⟨s5,hs5⟩:∃x:Gr.Str,s4++[84]=x:=⟨_,rfl⟩
 have Ls5:s5.length<=24300:=by rw[<-hs5];simp<;>omega
 have as5:=fun W=>add_run s4 [84] (by first|omega| (simp<;>omega)) W
 rw[hs5]at as5;have Hs5:=Lib.hid hs5;clear hs5;go_upto_region 7 with fail;clear q0 q1 q2 q3 q4 q5 q6 q9 as5;have p4:∀W:WB w0.heap.size w0,W.w.cell? ⟨gb,4,none⟩=some (.int .i64 (h:Int)):=fun W=>(HQ.out W).2.2.2.2.1
 have p5:∀W:WB w0.heap.size w0,W.w.cell? ⟨gb,5,none⟩=some (.int .i64 (mi:Int)):=fun W=>(HQ.out W).2.2.2.2.2.1
 have p6:∀W:WB w0.heap.size w0,W.w.cell? ⟨gb,6,none⟩=some (.int .i64 (c:Int)):=fun W=>(HQ.out W).2.2.2.2.2.2.1
 obtain⟨s6,hs6⟩:∃x:Gr.Str,ph++[58]=x:=⟨_,rfl⟩
 have Ls6:s6.length<=72900:=by rw[<-hs6];simp<;>omega
 have as6:=fun W=>add_run ph [58] (by first|omega| (simp<;>omega)) W
 rw[hs6]at as6;have Hs6:=Lib.hid hs6;clear hs6;obtain⟨s7,hs7⟩:∃x:Gr.Str,s6++pi=x:=⟨_,rfl⟩
 have Ls7:s7.length<=218700:=by rw[<-hs7];simp<;>omega
 have as7:=fun W=>add_run s6 pi (by first|omega| (simp<;>omega)) W
 rw[hs7]at as7;have Hs7:=Lib.hid hs7;clear hs7;obtain⟨s8,hs8⟩:∃x:Gr.Str,s7++[58]=x:=⟨_,rfl⟩
 have Ls8:s8.length<=656100:=by rw[<-hs8];simp<;>omega
 have as8:=fun W=>add_run s7 [58] (by first|omega| (simp<;>omega)) W
 rw[hs8]at as8;have Hs8:=Lib.hid hs8;clear hs8;obtain⟨s9,hs9⟩:∃x:Gr.Str,s8++pc=x:=⟨_,rfl⟩
 have Ls9:s9.length<=1968300:=by rw[<-hs9];simp<;>omega
 have as9:=fun W=>add_run s8 pc (by first|omega| (simp<;>omega)) W
 rw[hs9]at as9;have Hs9:=Lib.hid hs9;clear hs9;obtain⟨s10,hs10⟩:∃x:Gr.Str,s5++s9=x:=⟨_,rfl⟩
 have Ls10:s10.length<=5904900:=by rw[<-hs10];simp<;>omega
 have as10:=fun W=>add_run s5 s9 (by first|omega| (simp<;>omega)) W
 rw[hs10]at as10;have Hs10:=Lib.hid hs10;clear hs10;refine wp_region_grow w0.heap.size w0 (by kernel_rfl) (by kernel_rfl) wz.h ?_
 iterate 19 (try go_big_quiet_step ((first| (with_reducible refine Calls.grow ((HPH.out _ (HUT.out _)).mono (fun _ _ ⟨e1,e2⟩=>⟨e1,(WB.h _).trans (e2.mono (WB.h _).size)⟩)))| (with_reducible refine Calls.grow ((HPI.out _ (HUT.out _)).mono (fun _ _ ⟨e1,e2⟩=>⟨e1,(WB.h _).trans (e2.mono (WB.h _).size)⟩)))| (with_reducible refine Calls.grow ((HPC.out _ (HUT.out _)).mono (fun _ _ ⟨e1,e2⟩=>⟨e1,(WB.h _).trans (e2.mono (WB.h _).size)⟩))))))
 refine wpQuiet_nil ?_;rintro _ ⟨wy,rfl⟩;clear p4 p5 p6 as6 as7 as8 as9 as10;obtain⟨q0,q1,q2,q3,q4,q5,q6,q9⟩:=HQ.out wy;by_cases hz:0<nanos
 ·have hzI:(0:Int)<(nanos:Int):=by omega
  have HTR:Hid (∀W,Calls Tryz.prog 161 #[.string ⟨pn.toArray⟩,.string ⟨#[48]⟩] W fun e w'=>e=.returned (.string ⟨(Gr.trimZ pn).toArray⟩)/\w'=W):=Lib.hid (fun W=>Tryz.strings_TrimRight_one ⟨pn.toArray⟩ 48 (by decide) W (by show pn.toArray.size<=_;simp;omega));have hfl:(Gr.trimZ pn).length<=9:=by unfold Gr.trimZ;rw[List.length_reverse];exact Nat.le_trans (List.dropWhile_sublist _).length_le (by rw[List.length_reverse];omega)
  obtain⟨f,hf⟩:∃f,Gr.trimZ pn=f:=⟨_,rfl⟩
  have HFE:=Lib.hid hf;rw[hf]at HTR hfl;clear hf;obtain⟨s11,hs11⟩:∃x:Gr.Str,[46]++f=x:=⟨_,rfl⟩
  have Ls11:s11.length<=17714700:=by rw[<-hs11];simp<;>omega
  have as11:=fun W=>add_run [46] f (by first|omega| (simp<;>omega)) W
  rw[hs11]at as11;have Hs11:=Lib.hid hs11;clear hs11;obtain⟨s12,hs12⟩:∃x:Gr.Str,s10++s11=x:=⟨_,rfl⟩
  have Ls12:s12.length<=53144100:=by rw[<-hs12];simp<;>omega
  have as12:=fun W=>add_run s10 s11 (by first|omega| (simp<;>omega)) W
  rw[hs12]at as12;have Hs12:=Lib.hid hs12;clear hs12;have HE:Hid (r=s12):=Lib.hid (by
   rw[<-HR.out,<-Hs12.out,<-Hs11.out,<-Hs10.out,<-Hs9.out,<-Hs8.out,<-Hs7.out,<-Hs6.out,<-Hs5.out,<-Hs4.out,<-Hs3.out,<-Hs2.out,<-Hs1.out];simp only[Gr.clkS,Gr.nanoS,Gr.dateS,HEQ.out.1,HEQ.out.2.1,HEQ.out.2.2.1,HEQ.out.2.2.2.1,HEQ.out.2.2.2.2.1,HEQ.out.2.2.2.2.2.1,HEQ.out.2.2.2.2.2.2];rw[if_neg (by omega),HFE.out];simp)
  clear hz;go_wp2_with fail;refine(HPN.out _ (HUT.out wy)).mono ?_;rintro e w5 ⟨rfl,hb5⟩;have HB5:Hid (Below w0.heap.size w0 w5):=Lib.hid (wy.h.trans (hb5.mono wy.h.size));clear hb5 q0 q1 q2 q3 q4 q5 q6 q9;go_wp2_with fail;refine(HTR.out _).mono ?_;rintro e w6 ⟨rfl,rfl⟩;go_wp2_with fail;go_ret;rw[HE.out,HGB.out];exact⟨rfl,HB0.out.2.1.trans (HB5.out.mono (Nat.le_of_lt HB0.out.1.lt))⟩
 ·have hzI:¬(0:Int)<(nanos:Int):=by omega
  have HE:Hid (r=s10):=Lib.hid (by
   rw[<-HR.out,<-Hs10.out,<-Hs9.out,<-Hs8.out,<-Hs7.out,<-Hs6.out,<-Hs5.out,<-Hs4.out,<-Hs3.out,<-Hs2.out,<-Hs1.out];simp only[Gr.clkS,Gr.nanoS,Gr.dateS,HEQ.out.1,HEQ.out.2.1,HEQ.out.2.2.1,HEQ.out.2.2.2.1,HEQ.out.2.2.2.2.1,HEQ.out.2.2.2.2.2.1];rw[if_pos (by omega)];simp)
  go_wp2_with fail;go_ret;rw[HE.out,HGB.out];exact⟨rfl,HB0.out.2.1.trans (wy.h.mono (Nat.le_of_lt HB0.out.1.lt))⟩
end Go.Proofs.YtoigpackhninoaaGreatDoor

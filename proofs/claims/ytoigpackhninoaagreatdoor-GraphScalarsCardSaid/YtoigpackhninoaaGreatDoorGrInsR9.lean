/- Walks: the reference's Show of moments. -/
import Derived.Test.YtoigpackhninoaaGreatDoorZ08
import Derived.Test.YtoigpackhninoaaGreatDoorZ02
namespace Go.Proofs.YtoigpackhninoaaGreatDoor
set_option maxRecDepth 100000
set_option maxHeartbeats 16000000
open Go.RowKit
theorem rshow_tff (y m d h mi c nanos:Nat) (off:Int) (late:Bool) (hy:y<=999999999) (hm:m<=999999999) (hd:d<=999999999) (hh:h<=999999999) (hmi:mi<=999999999) (hc:c<=999999999) (hn:nanos<=999999999) (w:World):
 Calls Tryz.prog 105 #[.agg #[.bool true,.bool false,.bool false,.int .i64 (y:Int),.int .i64 (m:Int),.int .i64 (d:Int),.int .i64 (h:Int),.int .i64 (mi:Int),.int .i64 (c:Int),.int .i64 (nanos:Int),.int .i64 off,.bool late]] w fun e w'=>e=.returned (.string ⟨(Gr.dateS y m d:Gr.Str).toArray⟩)/\Below w.heap.size w w':=by
 have HPY:=Lib.hid (fun W=>rpad_any y 4 (y:Int) 4 rfl rfl (by omega) (by omega) W);have LHPY:=Gr.pd_len 4 y;have HPM:=Lib.hid (fun W=>rpad_any m 2 (m:Int) 2 rfl rfl (by omega) (by omega) W);have LHPM:=Gr.pd_len 2 m;have HPD:=Lib.hid (fun W=>rpad_any d 2 (d:Int) 2 rfl rfl (by omega) (by omega) W);have LHPD:=Gr.pd_len 2 d;have HPH:=Lib.hid (fun W=>rpad_any h 2 (h:Int) 2 rfl rfl (by omega) (by omega) W);have LHPH:=Gr.pd_len 2 h;have HPI:=Lib.hid (fun W=>rpad_any mi 2 (mi:Int) 2 rfl rfl (by omega) (by omega) W);have LHPI:=Gr.pd_len 2 mi;have HPC:=Lib.hid (fun W=>rpad_any c 2 (c:Int) 2 rfl rfl (by omega) (by omega) W);have LHPC:=Gr.pd_len 2 c;have HPN:=Lib.hid (fun W=>rpad_any nanos 9 (nanos:Int) 9 rfl rfl (by omega) (by omega) W);have LHPN:=Gr.pd_len 9 nanos;obtain⟨py,epy⟩:∃py,Gr.pd 4 y=py:=⟨_,rfl⟩
 rw[epy]at HPY LHPY;obtain⟨pm,epm⟩:∃pm,Gr.pd 2 m=pm:=⟨_,rfl⟩
 rw[epm]at HPM LHPM;obtain⟨pd,epd⟩:∃pd,Gr.pd 2 d=pd:=⟨_,rfl⟩
 rw[epd]at HPD LHPD;obtain⟨ph,eph⟩:∃ph,Gr.pd 2 h=ph:=⟨_,rfl⟩
 rw[eph]at HPH LHPH;obtain⟨pi,epi⟩:∃pi,Gr.pd 2 mi=pi:=⟨_,rfl⟩
 rw[epi]at HPI LHPI;obtain⟨pc,epc⟩:∃pc,Gr.pd 2 c=pc:=⟨_,rfl⟩
 rw[epc]at HPC LHPC;obtain⟨pn,epn⟩:∃pn,Gr.pd 9 nanos=pn:=⟨_,rfl⟩
 rw[epn]at HPN LHPN;have HEQ:Hid (Gr.pd 4 y=py/\Gr.pd 2 m=pm/\Gr.pd 2 d=pd/\Gr.pd 2 h=ph/\Gr.pd 2 mi=pi/\Gr.pd 2 c=pc/\Gr.pd 9 nanos=pn):=Lib.hid ⟨epy,epm,epd,eph,epi,epc,epn⟩;clear epy epm epd eph epi epc epn;obtain⟨r,hr⟩:∃r,Gr.dateS y m d=r:=⟨_,rfl⟩
 have HR:=Lib.hid hr;rw[hr];clear hr;go_enter Tryz.func105,Tryz.ntmps105;go_upto_region 1 with fail;obtain⟨gb,hgb⟩:∃gb,w.heap.size=gb:=⟨_,rfl⟩
 obtain⟨w0,hw0⟩:∃w0,w0=w.alloc (.cells #[.bool true,.bool false,.bool false,.int .i64 (y:Int),.int .i64 (m:Int),.int .i64 (d:Int),.int .i64 (h:Int),.int .i64 (mi:Int),.int .i64 (c:Int),.int .i64 (nanos:Int),.int .i64 off,.bool late] 111):=⟨_,rfl⟩
 have HB0:Hid (Blk w0 gb 111 (T12 true false false (y:Int) (m:Int) (d:Int) (h:Int) (mi:Int) (c:Int) (nanos:Int) off late)/\Below gb w w0):=Lib.hid (by rw[hw0,<-hgb];exact⟨Blk.new _ _ _,(Below.refl _ _).alloc (Nat.le_refl _) _⟩);have HGB:=Lib.hid hgb;(try rw[<-hw0]);(try rw[hgb]);clear hw0 hgb;have HQ:Hid (∀W:WB w0.heap.size w0,W.w.cell? ⟨gb,0,none⟩=some (.bool true)/\W.w.cell? ⟨gb,1,none⟩=some (.bool false)/\W.w.cell? ⟨gb,2,none⟩=some (.bool false)/\W.w.cell? ⟨gb,3,none⟩=some (.int .i64 (y:Int))/\W.w.cell? ⟨gb,4,none⟩=some (.int .i64 (m:Int))/\W.w.cell? ⟨gb,5,none⟩=some (.int .i64 (d:Int))/\W.w.cell? ⟨gb,6,none⟩=some (.int .i64 (h:Int))/\W.w.cell? ⟨gb,7,none⟩=some (.int .i64 (mi:Int))/\W.w.cell? ⟨gb,8,none⟩=some (.int .i64 (c:Int))/\W.w.cell? ⟨gb,9,none⟩=some (.int .i64 (nanos:Int))):=Lib.hid (fun W=>by
  have hx:=HB0.out.1.below W.h HB0.out.1.lt;exact⟨hx.cell 0,hx.cell 1,hx.cell 2,hx.cell 3,hx.cell 4,hx.cell 5,hx.cell 6,hx.cell 7,hx.cell 8,hx.cell 9⟩)
 obtain⟨wa,hwa⟩:∃wa:WB w0.heap.size w0,w0=wa.w:=⟨⟨w0,Below.refl _ _⟩,rfl⟩
 obtain⟨q0,q1,q2,q3,q4,q5,q6,q7,q8,q9⟩:=HQ.out ⟨w0,Below.refl _ _⟩;simp only at q0 q1 q2 q3 q4 q5 q6 q7 q8 q9;clear hwa wa;go_upto_region 3 with fail;clear q0 q1 q2 q3 q4 q5 q6 q7 q8 q9;have p3:∀W:WB w0.heap.size w0,W.w.cell? ⟨gb,3,none⟩=some (.int .i64 (y:Int)):=fun W=>(HQ.out W).2.2.2.1
 have p4:∀W:WB w0.heap.size w0,W.w.cell? ⟨gb,4,none⟩=some (.int .i64 (m:Int)):=fun W=>(HQ.out W).2.2.2.2.1
 have p5:∀W:WB w0.heap.size w0,W.w.cell? ⟨gb,5,none⟩=some (.int .i64 (d:Int)):=fun W=>(HQ.out W).2.2.2.2.2.1
 obtain⟨s1,hs1⟩:∃x:Gr.Str,py++[45]=x:=⟨_,rfl⟩
 have Ls1:s1.length<=20:=by rw[<-hs1];simp<;>omega
 have as1:=fun W=>add_run py [45] (by first|omega| (simp<;>omega)) W
 rw[hs1]at as1;have Hs1:=Lib.hid hs1;clear hs1;obtain⟨s2,hs2⟩:∃x:Gr.Str,s1++pm=x:=⟨_,rfl⟩
 have Ls2:s2.length<=30:=by rw[<-hs2];simp<;>omega
 have as2:=fun W=>add_run s1 pm (by first|omega| (simp<;>omega)) W
 rw[hs2]at as2;have Hs2:=Lib.hid hs2;clear hs2;obtain⟨s3,hs3⟩:∃x:Gr.Str,s2++[45]=x:=⟨_,rfl⟩
 have Ls3:s3.length<=40:=by rw[<-hs3];simp<;>omega
 have as3:=fun W=>add_run s2 [45] (by first|omega| (simp<;>omega)) W
 rw[hs3]at as3;have Hs3:=Lib.hid hs3;clear hs3;obtain⟨s4,hs4⟩:∃x:Gr.Str,s3++pd=x:=⟨_,rfl⟩
 have Ls4:s4.length<=50:=by rw[<-hs4];simp<;>omega
 have as4:=fun W=>add_run s3 pd (by first|omega| (simp<;>omega)) W
 rw[hs4]at as4;have Hs4:=Lib.hid hs4;clear hs4;refine wp_region_grow w0.heap.size w0 (by kernel_rfl) (by kernel_rfl) (Below.refl _ _) ?_
 iterate 14 (try go_big_quiet_step ((first| (with_reducible refine Calls.grow ((HPY.out _).mono (fun _ _ ⟨e1,e2⟩=>⟨e1,(WB.h _).trans (e2.mono (WB.h _).size)⟩)))| (with_reducible refine Calls.grow ((HPM.out _).mono (fun _ _ ⟨e1,e2⟩=>⟨e1,(WB.h _).trans (e2.mono (WB.h _).size)⟩)))| (with_reducible refine Calls.grow ((HPD.out _).mono (fun _ _ ⟨e1,e2⟩=>⟨e1,(WB.h _).trans (e2.mono (WB.h _).size)⟩))))))
 refine wpQuiet_nil ?_;rintro _ ⟨wz,rfl⟩;clear p3 p4 p5 as1 as2 as3 as4;obtain⟨q0,q1,q2,q3,q4,q5,q6,q7,q8,q9⟩:=HQ.out wz;have HE:Hid (r=s4):=Lib.hid (by
  rw[<-HR.out,<-Hs4.out,<-Hs3.out,<-Hs2.out,<-Hs1.out];simp only[Gr.dateS,HEQ.out.1,HEQ.out.2.1,HEQ.out.2.2.1];simp)
 go_wp2_with fail;go_ret;rw[HE.out,HGB.out];exact⟨rfl,HB0.out.2.trans (wz.h.mono (Nat.le_of_lt HB0.out.1.lt))⟩
theorem rshow_ftf (y m d h mi c nanos:Nat) (off:Int) (late:Bool) (hy:y<=999999999) (hm:m<=999999999) (hd:d<=999999999) (hh:h<=999999999) (hmi:mi<=999999999) (hc:c<=999999999) (hn:nanos<=999999999) (w:World):
 Calls Tryz.prog 105 #[.agg #[.bool false,.bool true,.bool false,.int .i64 (y:Int),.int .i64 (m:Int),.int .i64 (d:Int),.int .i64 (h:Int),.int .i64 (mi:Int),.int .i64 (c:Int),.int .i64 (nanos:Int),.int .i64 off,.bool late]] w fun e w'=>e=.returned (.string ⟨(Gr.clkS h mi c nanos:Gr.Str).toArray⟩)/\Below w.heap.size w w':=by
 have HPY:=Lib.hid (fun W=>rpad_any y 4 (y:Int) 4 rfl rfl (by omega) (by omega) W);have LHPY:=Gr.pd_len 4 y;have HPM:=Lib.hid (fun W=>rpad_any m 2 (m:Int) 2 rfl rfl (by omega) (by omega) W);have LHPM:=Gr.pd_len 2 m;have HPD:=Lib.hid (fun W=>rpad_any d 2 (d:Int) 2 rfl rfl (by omega) (by omega) W);have LHPD:=Gr.pd_len 2 d;have HPH:=Lib.hid (fun W=>rpad_any h 2 (h:Int) 2 rfl rfl (by omega) (by omega) W);have LHPH:=Gr.pd_len 2 h;have HPI:=Lib.hid (fun W=>rpad_any mi 2 (mi:Int) 2 rfl rfl (by omega) (by omega) W);have LHPI:=Gr.pd_len 2 mi;have HPC:=Lib.hid (fun W=>rpad_any c 2 (c:Int) 2 rfl rfl (by omega) (by omega) W);have LHPC:=Gr.pd_len 2 c;have HPN:=Lib.hid (fun W=>rpad_any nanos 9 (nanos:Int) 9 rfl rfl (by omega) (by omega) W);have LHPN:=Gr.pd_len 9 nanos;obtain⟨py,epy⟩:∃py,Gr.pd 4 y=py:=⟨_,rfl⟩
 rw[epy]at HPY LHPY;obtain⟨pm,epm⟩:∃pm,Gr.pd 2 m=pm:=⟨_,rfl⟩
 rw[epm]at HPM LHPM;obtain⟨pd,epd⟩:∃pd,Gr.pd 2 d=pd:=⟨_,rfl⟩
 rw[epd]at HPD LHPD;obtain⟨ph,eph⟩:∃ph,Gr.pd 2 h=ph:=⟨_,rfl⟩
 rw[eph]at HPH LHPH;obtain⟨pi,epi⟩:∃pi,Gr.pd 2 mi=pi:=⟨_,rfl⟩
 rw[epi]at HPI LHPI;obtain⟨pc,epc⟩:∃pc,Gr.pd 2 c=pc:=⟨_,rfl⟩
 rw[epc]at HPC LHPC;obtain⟨pn,epn⟩:∃pn,Gr.pd 9 nanos=pn:=⟨_,rfl⟩
 rw[epn]at HPN LHPN;have HEQ:Hid (Gr.pd 4 y=py/\Gr.pd 2 m=pm/\Gr.pd 2 d=pd/\Gr.pd 2 h=ph/\Gr.pd 2 mi=pi/\Gr.pd 2 c=pc/\Gr.pd 9 nanos=pn):=Lib.hid ⟨epy,epm,epd,eph,epi,epc,epn⟩;clear epy epm epd eph epi epc epn;obtain⟨r,hr⟩:∃r,Gr.clkS h mi c nanos=r:=⟨_,rfl⟩
 have HR:=Lib.hid hr;rw[hr];clear hr;go_enter Tryz.func105,Tryz.ntmps105;go_upto_region 1 with fail;obtain⟨gb,hgb⟩:∃gb,w.heap.size=gb:=⟨_,rfl⟩
 obtain⟨w0,hw0⟩:∃w0,w0=w.alloc (.cells #[.bool false,.bool true,.bool false,.int .i64 (y:Int),.int .i64 (m:Int),.int .i64 (d:Int),.int .i64 (h:Int),.int .i64 (mi:Int),.int .i64 (c:Int),.int .i64 (nanos:Int),.int .i64 off,.bool late] 111):=⟨_,rfl⟩
 have HB0:Hid (Blk w0 gb 111 (T12 false true false (y:Int) (m:Int) (d:Int) (h:Int) (mi:Int) (c:Int) (nanos:Int) off late)/\Below gb w w0):=Lib.hid (by rw[hw0,<-hgb];exact⟨Blk.new _ _ _,(Below.refl _ _).alloc (Nat.le_refl _) _⟩);have HGB:=Lib.hid hgb;(try rw[<-hw0]);(try rw[hgb]);clear hw0 hgb;have HQ:Hid (∀W:WB w0.heap.size w0,W.w.cell? ⟨gb,0,none⟩=some (.bool false)/\W.w.cell? ⟨gb,1,none⟩=some (.bool true)/\W.w.cell? ⟨gb,2,none⟩=some (.bool false)/\W.w.cell? ⟨gb,3,none⟩=some (.int .i64 (y:Int))/\W.w.cell? ⟨gb,4,none⟩=some (.int .i64 (m:Int))/\W.w.cell? ⟨gb,5,none⟩=some (.int .i64 (d:Int))/\W.w.cell? ⟨gb,6,none⟩=some (.int .i64 (h:Int))/\W.w.cell? ⟨gb,7,none⟩=some (.int .i64 (mi:Int))/\W.w.cell? ⟨gb,8,none⟩=some (.int .i64 (c:Int))/\W.w.cell? ⟨gb,9,none⟩=some (.int .i64 (nanos:Int))):=Lib.hid (fun W=>by
  have hx:=HB0.out.1.below W.h HB0.out.1.lt;exact⟨hx.cell 0,hx.cell 1,hx.cell 2,hx.cell 3,hx.cell 4,hx.cell 5,hx.cell 6,hx.cell 7,hx.cell 8,hx.cell 9⟩)
 obtain⟨wa,hwa⟩:∃wa:WB w0.heap.size w0,w0=wa.w:=⟨⟨w0,Below.refl _ _⟩,rfl⟩
 obtain⟨q0,q1,q2,q3,q4,q5,q6,q7,q8,q9⟩:=HQ.out ⟨w0,Below.refl _ _⟩;simp only at q0 q1 q2 q3 q4 q5 q6 q7 q8 q9;clear hwa wa;go_upto_region 7 with fail;clear q0 q1 q2 q3 q4 q5 q6 q7 q8 q9;have p6:∀W:WB w0.heap.size w0,W.w.cell? ⟨gb,6,none⟩=some (.int .i64 (h:Int)):=fun W=>(HQ.out W).2.2.2.2.2.2.1
 have p7:∀W:WB w0.heap.size w0,W.w.cell? ⟨gb,7,none⟩=some (.int .i64 (mi:Int)):=fun W=>(HQ.out W).2.2.2.2.2.2.2.1
 have p8:∀W:WB w0.heap.size w0,W.w.cell? ⟨gb,8,none⟩=some (.int .i64 (c:Int)):=fun W=>(HQ.out W).2.2.2.2.2.2.2.2.1
 obtain⟨s1,hs1⟩:∃x:Gr.Str,([]:Gr.Str)++ph=x:=⟨_,rfl⟩
 have Ls1:s1.length<=20:=by rw[<-hs1];simp<;>omega
 have as1:=fun W=>add_run ([]:Gr.Str) ph (by first|omega| (simp<;>omega)) W
 rw[hs1]at as1;have Hs1:=Lib.hid hs1;clear hs1;obtain⟨s2,hs2⟩:∃x:Gr.Str,s1++[58]=x:=⟨_,rfl⟩
 have Ls2:s2.length<=30:=by rw[<-hs2];simp<;>omega
 have as2:=fun W=>add_run s1 [58] (by first|omega| (simp<;>omega)) W
 rw[hs2]at as2;have Hs2:=Lib.hid hs2;clear hs2;obtain⟨s3,hs3⟩:∃x:Gr.Str,s2++pi=x:=⟨_,rfl⟩
 have Ls3:s3.length<=40:=by rw[<-hs3];simp<;>omega
 have as3:=fun W=>add_run s2 pi (by first|omega| (simp<;>omega)) W
 rw[hs3]at as3;have Hs3:=Lib.hid hs3;clear hs3;obtain⟨s4,hs4⟩:∃x:Gr.Str,s3++[58]=x:=⟨_,rfl⟩
 have Ls4:s4.length<=50:=by rw[<-hs4];simp<;>omega
 have as4:=fun W=>add_run s3 [58] (by first|omega| (simp<;>omega)) W
 rw[hs4]at as4;have Hs4:=Lib.hid hs4;clear hs4;obtain⟨s5,hs5⟩:∃x:Gr.Str,s4++pc=x:=⟨_,rfl⟩
 have Ls5:s5.length<=60:=by rw[<-hs5];simp<;>omega
 have as5:=fun W=>add_run s4 pc (by first|omega| (simp<;>omega)) W
 rw[hs5]at as5;have Hs5:=Lib.hid hs5;clear hs5;refine wp_region_grow w0.heap.size w0 (by kernel_rfl) (by kernel_rfl) (Below.refl _ _) ?_
 iterate 16 (try go_big_quiet_step ((first| (with_reducible refine Calls.grow ((HPH.out _).mono (fun _ _ ⟨e1,e2⟩=>⟨e1,(WB.h _).trans (e2.mono (WB.h _).size)⟩)))| (with_reducible refine Calls.grow ((HPI.out _).mono (fun _ _ ⟨e1,e2⟩=>⟨e1,(WB.h _).trans (e2.mono (WB.h _).size)⟩)))| (with_reducible refine Calls.grow ((HPC.out _).mono (fun _ _ ⟨e1,e2⟩=>⟨e1,(WB.h _).trans (e2.mono (WB.h _).size)⟩))))))
 refine wpQuiet_nil ?_;rintro _ ⟨wy,rfl⟩;clear p6 p7 p8 as1 as2 as3 as4 as5;obtain⟨q0,q1,q2,q3,q4,q5,q6,q7,q8,q9⟩:=HQ.out wy;go_wp2_with fail;refine(HPN.out _).mono ?_;rintro e w5 ⟨rfl,hb5⟩;have HB5:Hid (Below w0.heap.size w0 w5):=Lib.hid (wy.h.trans (hb5.mono wy.h.size));clear hb5 q0 q1 q2 q3 q4 q5 q6 q7 q8 q9;obtain⟨q0,q1,q2,q3,q4,q5,q6,q7,q8,q9⟩:=HQ.out ⟨w5,HB5.out⟩;simp only at q0 q1 q2 q3 q4 q5 q6 q7 q8 q9;go_wp2_with fail;go_loop [4] (fun s4=>∃f:Gr.Str,s4=.string ⟨f.toArray⟩/\f.length<=9/\Hid (Gr.trimZ f=Gr.trimZ pn)) (fun s4=>match s4 with| .string x=>x.size|_=>0)
 case atStart=>exact⟨pn,rfl,by omega,Lib.hid rfl⟩
 case round=>
  obtain⟨f,rfl,hf9,HV⟩:=hrel;rcases List.eq_nil_or_concat f with rfl|⟨g,ch,hfg⟩
  ·have HE:Hid (r=s5):=Lib.hid (by
    rw[<-HR.out,<-Hs5.out,<-Hs4.out,<-Hs3.out,<-Hs2.out,<-Hs1.out];have h1:=HV.out;simp only[Gr.clkS,Gr.nanoS,HEQ.out.2.2.2.1,HEQ.out.2.2.2.2.1,HEQ.out.2.2.2.2.2.1,HEQ.out.2.2.2.2.2.2];rw[show(if nanos=0 then([]:Gr.Str)else 46::Gr.trimZ pn)=[]from by
     by_cases h0:nanos=0
     ·rw[if_pos h0]
     ·exact absurd h1.symm (by rw[<-HEQ.out.2.2.2.2.2.2];exact Gr.trimZ_pos 9 nanos (by omega) (by omega))]
    simp)
   have b2:=fun W=>add_run s5 [90] (by first|omega| (simp<;>omega)) W
   go_wp2_with fail;go_ret;rw[HE.out,HGB.out];exact⟨rfl,HB0.out.2.trans (HB5.out.mono (Nat.le_of_lt HB0.out.1.lt))⟩
  ·have hF:f=g++[ch]:=by rw[hfg];simp
   have hgl:g.length<=8:=by rw[hF]at hf9;simp at hf9;omega
   have hg2:(f.length:Int)-1=(g.length:Int):=by rw[hF];simp
   have hlt:g.length<f.length:=by rw[hF];simp
   have hcg:f[g.length]'hlt=ch:=by
    have:∀l:Gr.Str,l=g++[ch]->∀h,l[g.length]'h=ch:=by rintro _ rfl h;simp
    exact this f hF hlt
   have hcut:=fun W=>str_hi f g.length (g.length:Int) rfl (Nat.le_of_lt hlt) W
   rw[show f.take g.length=g from by rw[hF];simp]at hcut;have HTR:Hid (Gr.trimZ f=if ch=48 then Gr.trimZ g else f):=Lib.hid (by rw[hF];exact Gr.trimZ_snoc g ch);clear hF hfg;have hF0:(0:Int)<(f.length:Int):=by omega
   have hF0b:0<f.length:=by omega
   by_cases hz:ch=48
   ·have hb1:=byte_is f g.length hlt ch 48 48 (by decide) hcg hz;have hb2:=byte_isb f g.length hlt ch 48 48 (by decide) hcg hz;have HNX:Hid (Gr.trimZ g=Gr.trimZ pn):=Lib.hid (by rw[<-HV.out,HTR.out,if_pos hz]);have hms:g.length<f.length:=hlt;clear hcg hz;go_wp2_with fail;go_round
    case rel=>exact⟨g,rfl,by omega,HNX⟩
    case measure=>simp[ByteArray.size];omega
   ·have hb1:=byte_not f g.length hlt ch 48 48 (by decide) hcg hz;have hb2:=byte_nob f g.length hlt ch 48 48 (by decide) hcg hz;have HTF:Hid (Gr.trimZ pn=f):=Lib.hid (by rw[<-HV.out,HTR.out,if_neg hz]);clear hcg hz hcut;obtain⟨s6,hs6⟩:∃x:Gr.Str,s5++[46]=x:=⟨_,rfl⟩
    have Ls6:s6.length<=70:=by rw[<-hs6];simp<;>omega
    have as6:=fun W=>add_run s5 [46] (by first|omega| (simp<;>omega)) W
    rw[hs6]at as6;have Hs6:=Lib.hid hs6;clear hs6;obtain⟨s7,hs7⟩:∃x:Gr.Str,s6++f=x:=⟨_,rfl⟩
    have Ls7:s7.length<=80:=by rw[<-hs7];simp<;>omega
    have as7:=fun W=>add_run s6 f (by first|omega| (simp<;>omega)) W
    rw[hs7]at as7;have Hs7:=Lib.hid hs7;clear hs7;have HE:Hid (r=s7):=Lib.hid (by
     rw[<-HR.out,<-Hs7.out,<-Hs6.out,<-Hs5.out,<-Hs4.out,<-Hs3.out,<-Hs2.out,<-Hs1.out];simp only[Gr.clkS,Gr.nanoS,HEQ.out.2.2.2.1,HEQ.out.2.2.2.2.1,HEQ.out.2.2.2.2.2.1,HEQ.out.2.2.2.2.2.2];have hn0:¬nanos=0:=fun h0=>by
      have h1:=HEQ.out.2.2.2.2.2.2;rw[h0,Gr.pd_zero]at h1;have h2:=HTF.out;rw[<-h1,Gr.trimZ_zero]at h2;rw[<-h2]at hF0b;simp at hF0b
     rw[if_neg hn0,HTF.out];simp)
    go_wp2_with fail;go_ret;rw[HE.out,HGB.out];exact⟨rfl,HB0.out.2.trans (HB5.out.mono (Nat.le_of_lt HB0.out.1.lt))⟩
theorem rshow_ttf (y m d h mi c nanos:Nat) (off:Int) (late:Bool) (hy:y<=999999999) (hm:m<=999999999) (hd:d<=999999999) (hh:h<=999999999) (hmi:mi<=999999999) (hc:c<=999999999) (hn:nanos<=999999999) (w:World):
 Calls Tryz.prog 105 #[.agg #[.bool true,.bool true,.bool false,.int .i64 (y:Int),.int .i64 (m:Int),.int .i64 (d:Int),.int .i64 (h:Int),.int .i64 (mi:Int),.int .i64 (c:Int),.int .i64 (nanos:Int),.int .i64 off,.bool late]] w fun e w'=>e=.returned (.string ⟨((Gr.dateS y m d++[84]++Gr.clkS h mi c nanos):Gr.Str).toArray⟩)/\Below w.heap.size w w':=by
 have HPY:=Lib.hid (fun W=>rpad_any y 4 (y:Int) 4 rfl rfl (by omega) (by omega) W);have LHPY:=Gr.pd_len 4 y;have HPM:=Lib.hid (fun W=>rpad_any m 2 (m:Int) 2 rfl rfl (by omega) (by omega) W);have LHPM:=Gr.pd_len 2 m;have HPD:=Lib.hid (fun W=>rpad_any d 2 (d:Int) 2 rfl rfl (by omega) (by omega) W);have LHPD:=Gr.pd_len 2 d;have HPH:=Lib.hid (fun W=>rpad_any h 2 (h:Int) 2 rfl rfl (by omega) (by omega) W);have LHPH:=Gr.pd_len 2 h;have HPI:=Lib.hid (fun W=>rpad_any mi 2 (mi:Int) 2 rfl rfl (by omega) (by omega) W);have LHPI:=Gr.pd_len 2 mi;have HPC:=Lib.hid (fun W=>rpad_any c 2 (c:Int) 2 rfl rfl (by omega) (by omega) W);have LHPC:=Gr.pd_len 2 c;have HPN:=Lib.hid (fun W=>rpad_any nanos 9 (nanos:Int) 9 rfl rfl (by omega) (by omega) W);have LHPN:=Gr.pd_len 9 nanos;obtain⟨py,epy⟩:∃py,Gr.pd 4 y=py:=⟨_,rfl⟩
 rw[epy]at HPY LHPY;obtain⟨pm,epm⟩:∃pm,Gr.pd 2 m=pm:=⟨_,rfl⟩
 rw[epm]at HPM LHPM;obtain⟨pd,epd⟩:∃pd,Gr.pd 2 d=pd:=⟨_,rfl⟩
 rw[epd]at HPD LHPD;obtain⟨ph,eph⟩:∃ph,Gr.pd 2 h=ph:=⟨_,rfl⟩
 rw[eph]at HPH LHPH;obtain⟨pi,epi⟩:∃pi,Gr.pd 2 mi=pi:=⟨_,rfl⟩
 rw[epi]at HPI LHPI;obtain⟨pc,epc⟩:∃pc,Gr.pd 2 c=pc:=⟨_,rfl⟩
 rw[epc]at HPC LHPC;obtain⟨pn,epn⟩:∃pn,Gr.pd 9 nanos=pn:=⟨_,rfl⟩
 rw[epn]at HPN LHPN;have HEQ:Hid (Gr.pd 4 y=py/\Gr.pd 2 m=pm/\Gr.pd 2 d=pd/\Gr.pd 2 h=ph/\Gr.pd 2 mi=pi/\Gr.pd 2 c=pc/\Gr.pd 9 nanos=pn):=Lib.hid ⟨epy,epm,epd,eph,epi,epc,epn⟩;clear epy epm epd eph epi epc epn;obtain⟨r,hr⟩:∃r,(Gr.dateS y m d++[84]++Gr.clkS h mi c nanos)=r:=⟨_,rfl⟩
 have HR:=Lib.hid hr;rw[hr];clear hr;go_enter Tryz.func105,Tryz.ntmps105;go_upto_region 1 with fail;obtain⟨gb,hgb⟩:∃gb,w.heap.size=gb:=⟨_,rfl⟩
 obtain⟨w0,hw0⟩:∃w0,w0=w.alloc (.cells #[.bool true,.bool true,.bool false,.int .i64 (y:Int),.int .i64 (m:Int),.int .i64 (d:Int),.int .i64 (h:Int),.int .i64 (mi:Int),.int .i64 (c:Int),.int .i64 (nanos:Int),.int .i64 off,.bool late] 111):=⟨_,rfl⟩
 have HB0:Hid (Blk w0 gb 111 (T12 true true false (y:Int) (m:Int) (d:Int) (h:Int) (mi:Int) (c:Int) (nanos:Int) off late)/\Below gb w w0):=Lib.hid (by rw[hw0,<-hgb];exact⟨Blk.new _ _ _,(Below.refl _ _).alloc (Nat.le_refl _) _⟩);have HGB:=Lib.hid hgb;(try rw[<-hw0]);(try rw[hgb]);clear hw0 hgb;have HQ:Hid (∀W:WB w0.heap.size w0,W.w.cell? ⟨gb,0,none⟩=some (.bool true)/\W.w.cell? ⟨gb,1,none⟩=some (.bool true)/\W.w.cell? ⟨gb,2,none⟩=some (.bool false)/\W.w.cell? ⟨gb,3,none⟩=some (.int .i64 (y:Int))/\W.w.cell? ⟨gb,4,none⟩=some (.int .i64 (m:Int))/\W.w.cell? ⟨gb,5,none⟩=some (.int .i64 (d:Int))/\W.w.cell? ⟨gb,6,none⟩=some (.int .i64 (h:Int))/\W.w.cell? ⟨gb,7,none⟩=some (.int .i64 (mi:Int))/\W.w.cell? ⟨gb,8,none⟩=some (.int .i64 (c:Int))/\W.w.cell? ⟨gb,9,none⟩=some (.int .i64 (nanos:Int))):=Lib.hid (fun W=>by
  have hx:=HB0.out.1.below W.h HB0.out.1.lt;exact⟨hx.cell 0,hx.cell 1,hx.cell 2,hx.cell 3,hx.cell 4,hx.cell 5,hx.cell 6,hx.cell 7,hx.cell 8,hx.cell 9⟩)
 obtain⟨wa,hwa⟩:∃wa:WB w0.heap.size w0,w0=wa.w:=⟨⟨w0,Below.refl _ _⟩,rfl⟩
 obtain⟨q0,q1,q2,q3,q4,q5,q6,q7,q8,q9⟩:=HQ.out ⟨w0,Below.refl _ _⟩;simp only at q0 q1 q2 q3 q4 q5 q6 q7 q8 q9;clear hwa wa;go_upto_region 3 with fail;clear q0 q1 q2 q3 q4 q5 q6 q7 q8 q9;have p3:∀W:WB w0.heap.size w0,W.w.cell? ⟨gb,3,none⟩=some (.int .i64 (y:Int)):=fun W=>(HQ.out W).2.2.2.1
 have p4:∀W:WB w0.heap.size w0,W.w.cell? ⟨gb,4,none⟩=some (.int .i64 (m:Int)):=fun W=>(HQ.out W).2.2.2.2.1
 have p5:∀W:WB w0.heap.size w0,W.w.cell? ⟨gb,5,none⟩=some (.int .i64 (d:Int)):=fun W=>(HQ.out W).2.2.2.2.2.1
 obtain⟨s1,hs1⟩:∃x:Gr.Str,py++[45]=x:=⟨_,rfl⟩
 have Ls1:s1.length<=20:=by rw[<-hs1];simp<;>omega
 have as1:=fun W=>add_run py [45] (by first|omega| (simp<;>omega)) W
 rw[hs1]at as1;have Hs1:=Lib.hid hs1;clear hs1;obtain⟨s2,hs2⟩:∃x:Gr.Str,s1++pm=x:=⟨_,rfl⟩
 have Ls2:s2.length<=30:=by rw[<-hs2];simp<;>omega
 have as2:=fun W=>add_run s1 pm (by first|omega| (simp<;>omega)) W
 rw[hs2]at as2;have Hs2:=Lib.hid hs2;clear hs2;obtain⟨s3,hs3⟩:∃x:Gr.Str,s2++[45]=x:=⟨_,rfl⟩
 have Ls3:s3.length<=40:=by rw[<-hs3];simp<;>omega
 have as3:=fun W=>add_run s2 [45] (by first|omega| (simp<;>omega)) W
 rw[hs3]at as3;have Hs3:=Lib.hid hs3;clear hs3;obtain⟨s4,hs4⟩:∃x:Gr.Str,s3++pd=x:=⟨_,rfl⟩
 have Ls4:s4.length<=50:=by rw[<-hs4];simp<;>omega
 have as4:=fun W=>add_run s3 pd (by first|omega| (simp<;>omega)) W
 rw[hs4]at as4;have Hs4:=Lib.hid hs4;clear hs4;refine wp_region_grow w0.heap.size w0 (by kernel_rfl) (by kernel_rfl) (Below.refl _ _) ?_
 iterate 14 (try go_big_quiet_step ((first| (with_reducible refine Calls.grow ((HPY.out _).mono (fun _ _ ⟨e1,e2⟩=>⟨e1,(WB.h _).trans (e2.mono (WB.h _).size)⟩)))| (with_reducible refine Calls.grow ((HPM.out _).mono (fun _ _ ⟨e1,e2⟩=>⟨e1,(WB.h _).trans (e2.mono (WB.h _).size)⟩)))| (with_reducible refine Calls.grow ((HPD.out _).mono (fun _ _ ⟨e1,e2⟩=>⟨e1,(WB.h _).trans (e2.mono (WB.h _).size)⟩))))))
 refine wpQuiet_nil ?_;rintro _ ⟨wz,rfl⟩;clear p3 p4 p5 as1 as2 as3 as4;obtain⟨q0,q1,q2,q3,q4,q5,q6,q7,q8,q9⟩:=HQ.out wz;obtain⟨s5,hs5⟩:∃x:Gr.Str,s4++[84]=x:=⟨_,rfl⟩
 have Ls5:s5.length<=60:=by rw[<-hs5];simp<;>omega
 have as5:=fun W=>add_run s4 [84] (by first|omega| (simp<;>omega)) W
 rw[hs5]at as5;have Hs5:=Lib.hid hs5;clear hs5;go_upto_region 7 with fail;clear q0 q1 q2 q3 q4 q5 q6 q7 q8 q9;clear as5;have p6:∀W:WB w0.heap.size w0,W.w.cell? ⟨gb,6,none⟩=some (.int .i64 (h:Int)):=fun W=>(HQ.out W).2.2.2.2.2.2.1
 have p7:∀W:WB w0.heap.size w0,W.w.cell? ⟨gb,7,none⟩=some (.int .i64 (mi:Int)):=fun W=>(HQ.out W).2.2.2.2.2.2.2.1
 have p8:∀W:WB w0.heap.size w0,W.w.cell? ⟨gb,8,none⟩=some (.int .i64 (c:Int)):=fun W=>(HQ.out W).2.2.2.2.2.2.2.2.1
 obtain⟨s6,hs6⟩:∃x:Gr.Str,s5++ph=x:=⟨_,rfl⟩
 have Ls6:s6.length<=70:=by rw[<-hs6];simp<;>omega
 have as6:=fun W=>add_run s5 ph (by first|omega| (simp<;>omega)) W
 rw[hs6]at as6;have Hs6:=Lib.hid hs6;clear hs6;obtain⟨s7,hs7⟩:∃x:Gr.Str,s6++[58]=x:=⟨_,rfl⟩
 have Ls7:s7.length<=80:=by rw[<-hs7];simp<;>omega
 have as7:=fun W=>add_run s6 [58] (by first|omega| (simp<;>omega)) W
 rw[hs7]at as7;have Hs7:=Lib.hid hs7;clear hs7;obtain⟨s8,hs8⟩:∃x:Gr.Str,s7++pi=x:=⟨_,rfl⟩
 have Ls8:s8.length<=90:=by rw[<-hs8];simp<;>omega
 have as8:=fun W=>add_run s7 pi (by first|omega| (simp<;>omega)) W
 rw[hs8]at as8;have Hs8:=Lib.hid hs8;clear hs8;obtain⟨s9,hs9⟩:∃x:Gr.Str,s8++[58]=x:=⟨_,rfl⟩
 have Ls9:s9.length<=100:=by rw[<-hs9];simp<;>omega
 have as9:=fun W=>add_run s8 [58] (by first|omega| (simp<;>omega)) W
 rw[hs9]at as9;have Hs9:=Lib.hid hs9;clear hs9;obtain⟨s10,hs10⟩:∃x:Gr.Str,s9++pc=x:=⟨_,rfl⟩
 have Ls10:s10.length<=110:=by rw[<-hs10];simp<;>omega
 have as10:=fun W=>add_run s9 pc (by first|omega| (simp<;>omega)) W
 rw[hs10]at as10;have Hs10:=Lib.hid hs10;clear hs10;refine wp_region_grow w0.heap.size w0 (by kernel_rfl) (by kernel_rfl) wz.h ?_
 iterate 16 (try go_big_quiet_step ((first| (with_reducible refine Calls.grow ((HPH.out _).mono (fun _ _ ⟨e1,e2⟩=>⟨e1,(WB.h _).trans (e2.mono (WB.h _).size)⟩)))| (with_reducible refine Calls.grow ((HPI.out _).mono (fun _ _ ⟨e1,e2⟩=>⟨e1,(WB.h _).trans (e2.mono (WB.h _).size)⟩)))| (with_reducible refine Calls.grow ((HPC.out _).mono (fun _ _ ⟨e1,e2⟩=>⟨e1,(WB.h _).trans (e2.mono (WB.h _).size)⟩))))))
 refine wpQuiet_nil ?_;rintro _ ⟨wy,rfl⟩;clear p6 p7 p8 as6 as7 as8 as9 as10;obtain⟨q0,q1,q2,q3,q4,q5,q6,q7,q8,q9⟩:=HQ.out wy;go_wp2_with fail;refine(HPN.out _).mono ?_;rintro e w5 ⟨rfl,hb5⟩;have HB5:Hid (Below w0.heap.size w0 w5):=Lib.hid (wy.h.trans (hb5.mono wy.h.size));clear hb5 q0 q1 q2 q3 q4 q5 q6 q7 q8 q9;obtain⟨q0,q1,q2,q3,q4,q5,q6,q7,q8,q9⟩:=HQ.out ⟨w5,HB5.out⟩;simp only at q0 q1 q2 q3 q4 q5 q6 q7 q8 q9;go_wp2_with fail;go_loop [4] (fun s4=>∃f:Gr.Str,s4=.string ⟨f.toArray⟩/\f.length<=9/\Hid (Gr.trimZ f=Gr.trimZ pn)) (fun s4=>match s4 with| .string x=>x.size|_=>0)
 case atStart=>exact⟨pn,rfl,by omega,Lib.hid rfl⟩
 case round=>
  obtain⟨f,rfl,hf9,HV⟩:=hrel;rcases List.eq_nil_or_concat f with rfl|⟨g,ch,hfg⟩
  ·have HE:Hid (r=s10):=Lib.hid (by
    rw[<-HR.out,<-Hs10.out,<-Hs9.out,<-Hs8.out,<-Hs7.out,<-Hs6.out,<-Hs5.out,<-Hs4.out,<-Hs3.out,<-Hs2.out,<-Hs1.out];have h1:=HV.out;simp only[Gr.clkS,Gr.nanoS,Gr.dateS,HEQ.out.1,HEQ.out.2.1,HEQ.out.2.2.1,HEQ.out.2.2.2.1,HEQ.out.2.2.2.2.1,HEQ.out.2.2.2.2.2.1,HEQ.out.2.2.2.2.2.2];rw[show(if nanos=0 then([]:Gr.Str)else 46::Gr.trimZ pn)=[]from by
     by_cases h0:nanos=0
     ·rw[if_pos h0]
     ·exact absurd h1.symm (by rw[<-HEQ.out.2.2.2.2.2.2];exact Gr.trimZ_pos 9 nanos (by omega) (by omega))]
    simp)
   have b2:=fun W=>add_run s10 [90] (by first|omega| (simp<;>omega)) W
   go_wp2_with fail;go_ret;rw[HE.out,HGB.out];exact⟨rfl,HB0.out.2.trans (HB5.out.mono (Nat.le_of_lt HB0.out.1.lt))⟩
  ·have hF:f=g++[ch]:=by rw[hfg];simp
   have hgl:g.length<=8:=by rw[hF]at hf9;simp at hf9;omega
   have hg2:(f.length:Int)-1=(g.length:Int):=by rw[hF];simp
   have hlt:g.length<f.length:=by rw[hF];simp
   have hcg:f[g.length]'hlt=ch:=by
    have:∀l:Gr.Str,l=g++[ch]->∀h,l[g.length]'h=ch:=by rintro _ rfl h;simp
    exact this f hF hlt
   have hcut:=fun W=>str_hi f g.length (g.length:Int) rfl (Nat.le_of_lt hlt) W
   rw[show f.take g.length=g from by rw[hF];simp]at hcut;have HTR:Hid (Gr.trimZ f=if ch=48 then Gr.trimZ g else f):=Lib.hid (by rw[hF];exact Gr.trimZ_snoc g ch);clear hF hfg;have hF0:(0:Int)<(f.length:Int):=by omega
   have hF0b:0<f.length:=by omega
   by_cases hz:ch=48
   ·have hb1:=byte_is f g.length hlt ch 48 48 (by decide) hcg hz;have hb2:=byte_isb f g.length hlt ch 48 48 (by decide) hcg hz;have HNX:Hid (Gr.trimZ g=Gr.trimZ pn):=Lib.hid (by rw[<-HV.out,HTR.out,if_pos hz]);have hms:g.length<f.length:=hlt;clear hcg hz;go_wp2_with fail;go_round
    case rel=>exact⟨g,rfl,by omega,HNX⟩
    case measure=>simp[ByteArray.size];omega
   ·have hb1:=byte_not f g.length hlt ch 48 48 (by decide) hcg hz;have hb2:=byte_nob f g.length hlt ch 48 48 (by decide) hcg hz;have HTF:Hid (Gr.trimZ pn=f):=Lib.hid (by rw[<-HV.out,HTR.out,if_neg hz]);clear hcg hz hcut;obtain⟨s11,hs11⟩:∃x:Gr.Str,s10++[46]=x:=⟨_,rfl⟩
    have Ls11:s11.length<=120:=by rw[<-hs11];simp<;>omega
    have as11:=fun W=>add_run s10 [46] (by first|omega| (simp<;>omega)) W
    rw[hs11]at as11;have Hs11:=Lib.hid hs11;clear hs11;obtain⟨s12,hs12⟩:∃x:Gr.Str,s11++f=x:=⟨_,rfl⟩
    have Ls12:s12.length<=130:=by rw[<-hs12];simp<;>omega
    have as12:=fun W=>add_run s11 f (by first|omega| (simp<;>omega)) W
    rw[hs12]at as12;have Hs12:=Lib.hid hs12;clear hs12;have HE:Hid (r=s12):=Lib.hid (by
     rw[<-HR.out,<-Hs12.out,<-Hs11.out,<-Hs10.out,<-Hs9.out,<-Hs8.out,<-Hs7.out,<-Hs6.out,<-Hs5.out,<-Hs4.out,<-Hs3.out,<-Hs2.out,<-Hs1.out];simp only[Gr.clkS,Gr.nanoS,Gr.dateS,HEQ.out.1,HEQ.out.2.1,HEQ.out.2.2.1,HEQ.out.2.2.2.1,HEQ.out.2.2.2.2.1,HEQ.out.2.2.2.2.2.1,HEQ.out.2.2.2.2.2.2];have hn0:¬nanos=0:=fun h0=>by
      have h1:=HEQ.out.2.2.2.2.2.2;rw[h0,Gr.pd_zero]at h1;have h2:=HTF.out;rw[<-h1,Gr.trimZ_zero]at h2;rw[<-h2]at hF0b;simp at hF0b
     rw[if_neg hn0,HTF.out];simp)
    go_wp2_with fail;go_ret;rw[HE.out,HGB.out];exact⟨rfl,HB0.out.2.trans (HB5.out.mono (Nat.le_of_lt HB0.out.1.lt))⟩
theorem rshow_ttt (y m d h mi c nanos:Nat) (off:Int) (late:Bool) (hy:y<=999999999) (hm:m<=999999999) (hd:d<=999999999) (hh:h<=999999999) (hmi:mi<=999999999) (hc:c<=999999999) (hn:nanos<=999999999) (w:World):
 Calls Tryz.prog 105 #[.agg #[.bool true,.bool true,.bool true,.int .i64 (y:Int),.int .i64 (m:Int),.int .i64 (d:Int),.int .i64 (h:Int),.int .i64 (mi:Int),.int .i64 (c:Int),.int .i64 (nanos:Int),.int .i64 off,.bool late]] w fun e w'=>e=.returned (.string ⟨((Gr.dateS y m d++[84]++Gr.clkS h mi c nanos++[90]):Gr.Str).toArray⟩)/\Below w.heap.size w w':=by
 have HPY:=Lib.hid (fun W=>rpad_any y 4 (y:Int) 4 rfl rfl (by omega) (by omega) W);have LHPY:=Gr.pd_len 4 y;have HPM:=Lib.hid (fun W=>rpad_any m 2 (m:Int) 2 rfl rfl (by omega) (by omega) W);have LHPM:=Gr.pd_len 2 m;have HPD:=Lib.hid (fun W=>rpad_any d 2 (d:Int) 2 rfl rfl (by omega) (by omega) W);have LHPD:=Gr.pd_len 2 d;have HPH:=Lib.hid (fun W=>rpad_any h 2 (h:Int) 2 rfl rfl (by omega) (by omega) W);have LHPH:=Gr.pd_len 2 h;have HPI:=Lib.hid (fun W=>rpad_any mi 2 (mi:Int) 2 rfl rfl (by omega) (by omega) W);have LHPI:=Gr.pd_len 2 mi;have HPC:=Lib.hid (fun W=>rpad_any c 2 (c:Int) 2 rfl rfl (by omega) (by omega) W);have LHPC:=Gr.pd_len 2 c;have HPN:=Lib.hid (fun W=>rpad_any nanos 9 (nanos:Int) 9 rfl rfl (by omega) (by omega) W);have LHPN:=Gr.pd_len 9 nanos;obtain⟨py,epy⟩:∃py,Gr.pd 4 y=py:=⟨_,rfl⟩
 rw[epy]at HPY LHPY;obtain⟨pm,epm⟩:∃pm,Gr.pd 2 m=pm:=⟨_,rfl⟩
 rw[epm]at HPM LHPM;obtain⟨pd,epd⟩:∃pd,Gr.pd 2 d=pd:=⟨_,rfl⟩
 rw[epd]at HPD LHPD;obtain⟨ph,eph⟩:∃ph,Gr.pd 2 h=ph:=⟨_,rfl⟩
 rw[eph]at HPH LHPH;obtain⟨pi,epi⟩:∃pi,Gr.pd 2 mi=pi:=⟨_,rfl⟩
 rw[epi]at HPI LHPI;obtain⟨pc,epc⟩:∃pc,Gr.pd 2 c=pc:=⟨_,rfl⟩
 rw[epc]at HPC LHPC;obtain⟨pn,epn⟩:∃pn,Gr.pd 9 nanos=pn:=⟨_,rfl⟩
 rw[epn]at HPN LHPN;have HEQ:Hid (Gr.pd 4 y=py/\Gr.pd 2 m=pm/\Gr.pd 2 d=pd/\Gr.pd 2 h=ph/\Gr.pd 2 mi=pi/\Gr.pd 2 c=pc/\Gr.pd 9 nanos=pn):=Lib.hid ⟨epy,epm,epd,eph,epi,epc,epn⟩;clear epy epm epd eph epi epc epn;obtain⟨r,hr⟩:∃r,(Gr.dateS y m d++[84]++Gr.clkS h mi c nanos++[90])=r:=⟨_,rfl⟩
 have HR:=Lib.hid hr;rw[hr];clear hr;go_enter Tryz.func105,Tryz.ntmps105;go_upto_region 1 with fail;obtain⟨gb,hgb⟩:∃gb,w.heap.size=gb:=⟨_,rfl⟩
 obtain⟨w0,hw0⟩:∃w0,w0=w.alloc (.cells #[.bool true,.bool true,.bool true,.int .i64 (y:Int),.int .i64 (m:Int),.int .i64 (d:Int),.int .i64 (h:Int),.int .i64 (mi:Int),.int .i64 (c:Int),.int .i64 (nanos:Int),.int .i64 off,.bool late] 111):=⟨_,rfl⟩
 have HB0:Hid (Blk w0 gb 111 (T12 true true true (y:Int) (m:Int) (d:Int) (h:Int) (mi:Int) (c:Int) (nanos:Int) off late)/\Below gb w w0):=Lib.hid (by rw[hw0,<-hgb];exact⟨Blk.new _ _ _,(Below.refl _ _).alloc (Nat.le_refl _) _⟩);have HGB:=Lib.hid hgb;(try rw[<-hw0]);(try rw[hgb]);clear hw0 hgb;have HQ:Hid (∀W:WB w0.heap.size w0,W.w.cell? ⟨gb,0,none⟩=some (.bool true)/\W.w.cell? ⟨gb,1,none⟩=some (.bool true)/\W.w.cell? ⟨gb,2,none⟩=some (.bool true)/\W.w.cell? ⟨gb,3,none⟩=some (.int .i64 (y:Int))/\W.w.cell? ⟨gb,4,none⟩=some (.int .i64 (m:Int))/\W.w.cell? ⟨gb,5,none⟩=some (.int .i64 (d:Int))/\W.w.cell? ⟨gb,6,none⟩=some (.int .i64 (h:Int))/\W.w.cell? ⟨gb,7,none⟩=some (.int .i64 (mi:Int))/\W.w.cell? ⟨gb,8,none⟩=some (.int .i64 (c:Int))/\W.w.cell? ⟨gb,9,none⟩=some (.int .i64 (nanos:Int))):=Lib.hid (fun W=>by
  have hx:=HB0.out.1.below W.h HB0.out.1.lt;exact⟨hx.cell 0,hx.cell 1,hx.cell 2,hx.cell 3,hx.cell 4,hx.cell 5,hx.cell 6,hx.cell 7,hx.cell 8,hx.cell 9⟩)
 obtain⟨wa,hwa⟩:∃wa:WB w0.heap.size w0,w0=wa.w:=⟨⟨w0,Below.refl _ _⟩,rfl⟩
 obtain⟨q0,q1,q2,q3,q4,q5,q6,q7,q8,q9⟩:=HQ.out ⟨w0,Below.refl _ _⟩;simp only at q0 q1 q2 q3 q4 q5 q6 q7 q8 q9;clear hwa wa;go_upto_region 3 with fail;clear q0 q1 q2 q3 q4 q5 q6 q7 q8 q9;have p3:∀W:WB w0.heap.size w0,W.w.cell? ⟨gb,3,none⟩=some (.int .i64 (y:Int)):=fun W=>(HQ.out W).2.2.2.1
 have p4:∀W:WB w0.heap.size w0,W.w.cell? ⟨gb,4,none⟩=some (.int .i64 (m:Int)):=fun W=>(HQ.out W).2.2.2.2.1
 have p5:∀W:WB w0.heap.size w0,W.w.cell? ⟨gb,5,none⟩=some (.int .i64 (d:Int)):=fun W=>(HQ.out W).2.2.2.2.2.1
 obtain⟨s1,hs1⟩:∃x:Gr.Str,py++[45]=x:=⟨_,rfl⟩
 have Ls1:s1.length<=20:=by rw[<-hs1];simp<;>omega
 have as1:=fun W=>add_run py [45] (by first|omega| (simp<;>omega)) W
 rw[hs1]at as1;have Hs1:=Lib.hid hs1;clear hs1;obtain⟨s2,hs2⟩:∃x:Gr.Str,s1++pm=x:=⟨_,rfl⟩
 have Ls2:s2.length<=30:=by rw[<-hs2];simp<;>omega
 have as2:=fun W=>add_run s1 pm (by first|omega| (simp<;>omega)) W
 rw[hs2]at as2;have Hs2:=Lib.hid hs2;clear hs2;obtain⟨s3,hs3⟩:∃x:Gr.Str,s2++[45]=x:=⟨_,rfl⟩
 have Ls3:s3.length<=40:=by rw[<-hs3];simp<;>omega
 have as3:=fun W=>add_run s2 [45] (by first|omega| (simp<;>omega)) W
 rw[hs3]at as3;have Hs3:=Lib.hid hs3;clear hs3;obtain⟨s4,hs4⟩:∃x:Gr.Str,s3++pd=x:=⟨_,rfl⟩
 have Ls4:s4.length<=50:=by rw[<-hs4];simp<;>omega
 have as4:=fun W=>add_run s3 pd (by first|omega| (simp<;>omega)) W
 rw[hs4]at as4;have Hs4:=Lib.hid hs4;clear hs4;refine wp_region_grow w0.heap.size w0 (by kernel_rfl) (by kernel_rfl) (Below.refl _ _) ?_
 iterate 14 (try go_big_quiet_step ((first| (with_reducible refine Calls.grow ((HPY.out _).mono (fun _ _ ⟨e1,e2⟩=>⟨e1,(WB.h _).trans (e2.mono (WB.h _).size)⟩)))| (with_reducible refine Calls.grow ((HPM.out _).mono (fun _ _ ⟨e1,e2⟩=>⟨e1,(WB.h _).trans (e2.mono (WB.h _).size)⟩)))| (with_reducible refine Calls.grow ((HPD.out _).mono (fun _ _ ⟨e1,e2⟩=>⟨e1,(WB.h _).trans (e2.mono (WB.h _).size)⟩))))))
 refine wpQuiet_nil ?_;rintro _ ⟨wz,rfl⟩;clear p3 p4 p5 as1 as2 as3 as4;obtain⟨q0,q1,q2,q3,q4,q5,q6,q7,q8,q9⟩:=HQ.out wz;obtain⟨s5,hs5⟩:∃x:Gr.Str,s4++[84]=x:=⟨_,rfl⟩
 have Ls5:s5.length<=60:=by rw[<-hs5];simp<;>omega
 have as5:=fun W=>add_run s4 [84] (by first|omega| (simp<;>omega)) W
 rw[hs5]at as5;have Hs5:=Lib.hid hs5;clear hs5;go_upto_region 7 with fail;clear q0 q1 q2 q3 q4 q5 q6 q7 q8 q9;clear as5;have p6:∀W:WB w0.heap.size w0,W.w.cell? ⟨gb,6,none⟩=some (.int .i64 (h:Int)):=fun W=>(HQ.out W).2.2.2.2.2.2.1
 have p7:∀W:WB w0.heap.size w0,W.w.cell? ⟨gb,7,none⟩=some (.int .i64 (mi:Int)):=fun W=>(HQ.out W).2.2.2.2.2.2.2.1
 have p8:∀W:WB w0.heap.size w0,W.w.cell? ⟨gb,8,none⟩=some (.int .i64 (c:Int)):=fun W=>(HQ.out W).2.2.2.2.2.2.2.2.1
 obtain⟨s6,hs6⟩:∃x:Gr.Str,s5++ph=x:=⟨_,rfl⟩
 have Ls6:s6.length<=70:=by rw[<-hs6];simp<;>omega
 have as6:=fun W=>add_run s5 ph (by first|omega| (simp<;>omega)) W
 rw[hs6]at as6;have Hs6:=Lib.hid hs6;clear hs6;obtain⟨s7,hs7⟩:∃x:Gr.Str,s6++[58]=x:=⟨_,rfl⟩
 have Ls7:s7.length<=80:=by rw[<-hs7];simp<;>omega
 have as7:=fun W=>add_run s6 [58] (by first|omega| (simp<;>omega)) W
 rw[hs7]at as7;have Hs7:=Lib.hid hs7;clear hs7;obtain⟨s8,hs8⟩:∃x:Gr.Str,s7++pi=x:=⟨_,rfl⟩
 have Ls8:s8.length<=90:=by rw[<-hs8];simp<;>omega
 have as8:=fun W=>add_run s7 pi (by first|omega| (simp<;>omega)) W
 rw[hs8]at as8;have Hs8:=Lib.hid hs8;clear hs8;obtain⟨s9,hs9⟩:∃x:Gr.Str,s8++[58]=x:=⟨_,rfl⟩
 have Ls9:s9.length<=100:=by rw[<-hs9];simp<;>omega
 have as9:=fun W=>add_run s8 [58] (by first|omega| (simp<;>omega)) W
 rw[hs9]at as9;have Hs9:=Lib.hid hs9;clear hs9;obtain⟨s10,hs10⟩:∃x:Gr.Str,s9++pc=x:=⟨_,rfl⟩
 have Ls10:s10.length<=110:=by rw[<-hs10];simp<;>omega
 have as10:=fun W=>add_run s9 pc (by first|omega| (simp<;>omega)) W
 rw[hs10]at as10;have Hs10:=Lib.hid hs10;clear hs10;refine wp_region_grow w0.heap.size w0 (by kernel_rfl) (by kernel_rfl) wz.h ?_
 iterate 16 (try go_big_quiet_step ((first| (with_reducible refine Calls.grow ((HPH.out _).mono (fun _ _ ⟨e1,e2⟩=>⟨e1,(WB.h _).trans (e2.mono (WB.h _).size)⟩)))| (with_reducible refine Calls.grow ((HPI.out _).mono (fun _ _ ⟨e1,e2⟩=>⟨e1,(WB.h _).trans (e2.mono (WB.h _).size)⟩)))| (with_reducible refine Calls.grow ((HPC.out _).mono (fun _ _ ⟨e1,e2⟩=>⟨e1,(WB.h _).trans (e2.mono (WB.h _).size)⟩))))))
 refine wpQuiet_nil ?_;rintro _ ⟨wy,rfl⟩;clear p6 p7 p8 as6 as7 as8 as9 as10;obtain⟨q0,q1,q2,q3,q4,q5,q6,q7,q8,q9⟩:=HQ.out wy;go_wp2_with fail;refine(HPN.out _).mono ?_;rintro e w5 ⟨rfl,hb5⟩;have HB5:Hid (Below w0.heap.size w0 w5):=Lib.hid (wy.h.trans (hb5.mono wy.h.size));clear hb5 q0 q1 q2 q3 q4 q5 q6 q7 q8 q9;obtain⟨q0,q1,q2,q3,q4,q5,q6,q7,q8,q9⟩:=HQ.out ⟨w5,HB5.out⟩;simp only at q0 q1 q2 q3 q4 q5 q6 q7 q8 q9;go_wp2_with fail;go_loop [4] (fun s4=>∃f:Gr.Str,s4=.string ⟨f.toArray⟩/\f.length<=9/\Hid (Gr.trimZ f=Gr.trimZ pn)) (fun s4=>match s4 with| .string x=>x.size|_=>0)
 case atStart=>exact⟨pn,rfl,by omega,Lib.hid rfl⟩
 case round=>
  obtain⟨f,rfl,hf9,HV⟩:=hrel;rcases List.eq_nil_or_concat f with rfl|⟨g,ch,hfg⟩
  ·have HE:Hid (r=s10++[90]):=Lib.hid (by
    rw[<-HR.out,<-Hs10.out,<-Hs9.out,<-Hs8.out,<-Hs7.out,<-Hs6.out,<-Hs5.out,<-Hs4.out,<-Hs3.out,<-Hs2.out,<-Hs1.out];have h1:=HV.out;simp only[Gr.clkS,Gr.nanoS,Gr.dateS,HEQ.out.1,HEQ.out.2.1,HEQ.out.2.2.1,HEQ.out.2.2.2.1,HEQ.out.2.2.2.2.1,HEQ.out.2.2.2.2.2.1,HEQ.out.2.2.2.2.2.2];rw[show(if nanos=0 then([]:Gr.Str)else 46::Gr.trimZ pn)=[]from by
     by_cases h0:nanos=0
     ·rw[if_pos h0]
     ·exact absurd h1.symm (by rw[<-HEQ.out.2.2.2.2.2.2];exact Gr.trimZ_pos 9 nanos (by omega) (by omega))]
    simp)
   have b2:=fun W=>add_run s10 [90] (by first|omega| (simp<;>omega)) W
   go_wp2_with fail;go_ret;rw[HE.out,HGB.out];exact⟨rfl,HB0.out.2.trans (HB5.out.mono (Nat.le_of_lt HB0.out.1.lt))⟩
  ·have hF:f=g++[ch]:=by rw[hfg];simp
   have hgl:g.length<=8:=by rw[hF]at hf9;simp at hf9;omega
   have hg2:(f.length:Int)-1=(g.length:Int):=by rw[hF];simp
   have hlt:g.length<f.length:=by rw[hF];simp
   have hcg:f[g.length]'hlt=ch:=by
    have:∀l:Gr.Str,l=g++[ch]->∀h,l[g.length]'h=ch:=by rintro _ rfl h;simp
    exact this f hF hlt
   have hcut:=fun W=>str_hi f g.length (g.length:Int) rfl (Nat.le_of_lt hlt) W
   rw[show f.take g.length=g from by rw[hF];simp]at hcut;have HTR:Hid (Gr.trimZ f=if ch=48 then Gr.trimZ g else f):=Lib.hid (by rw[hF];exact Gr.trimZ_snoc g ch);clear hF hfg;have hF0:(0:Int)<(f.length:Int):=by omega
   have hF0b:0<f.length:=by omega
   by_cases hz:ch=48
   ·have hb1:=byte_is f g.length hlt ch 48 48 (by decide) hcg hz;have hb2:=byte_isb f g.length hlt ch 48 48 (by decide) hcg hz;have HNX:Hid (Gr.trimZ g=Gr.trimZ pn):=Lib.hid (by rw[<-HV.out,HTR.out,if_pos hz]);have hms:g.length<f.length:=hlt;clear hcg hz;go_wp2_with fail;go_round
    case rel=>exact⟨g,rfl,by omega,HNX⟩
    case measure=>simp[ByteArray.size];omega
   ·have hb1:=byte_not f g.length hlt ch 48 48 (by decide) hcg hz;have hb2:=byte_nob f g.length hlt ch 48 48 (by decide) hcg hz;have HTF:Hid (Gr.trimZ pn=f):=Lib.hid (by rw[<-HV.out,HTR.out,if_neg hz]);clear hcg hz hcut;obtain⟨s11,hs11⟩:∃x:Gr.Str,s10++[46]=x:=⟨_,rfl⟩
    have Ls11:s11.length<=120:=by rw[<-hs11];simp<;>omega
    have as11:=fun W=>add_run s10 [46] (by first|omega| (simp<;>omega)) W
    rw[hs11]at as11;have Hs11:=Lib.hid hs11;clear hs11;obtain⟨s12,hs12⟩:∃x:Gr.Str,s11++f=x:=⟨_,rfl⟩
    have Ls12:s12.length<=130:=by rw[<-hs12];simp<;>omega
    have as12:=fun W=>add_run s11 f (by first|omega| (simp<;>omega)) W
    rw[hs12]at as12;have Hs12:=Lib.hid hs12;clear hs12;obtain⟨s13,hs13⟩:∃x:Gr.Str,s12++[90]=x:=⟨_,rfl⟩
    have Ls13:s13.length<=140:=by rw[<-hs13];simp<;>omega
    have as13:=fun W=>add_run s12 [90] (by first|omega| (simp<;>omega)) W
    rw[hs13]at as13;have Hs13:=Lib.hid hs13;clear hs13;have HE:Hid (r=s13):=Lib.hid (by
     rw[<-HR.out,<-Hs13.out,<-Hs12.out,<-Hs11.out,<-Hs10.out,<-Hs9.out,<-Hs8.out,<-Hs7.out,<-Hs6.out,<-Hs5.out,<-Hs4.out,<-Hs3.out,<-Hs2.out,<-Hs1.out];simp only[Gr.clkS,Gr.nanoS,Gr.dateS,HEQ.out.1,HEQ.out.2.1,HEQ.out.2.2.1,HEQ.out.2.2.2.1,HEQ.out.2.2.2.2.1,HEQ.out.2.2.2.2.2.1,HEQ.out.2.2.2.2.2.2];have hn0:¬nanos=0:=fun h0=>by
      have h1:=HEQ.out.2.2.2.2.2.2;rw[h0,Gr.pd_zero]at h1;have h2:=HTF.out;rw[<-h1,Gr.trimZ_zero]at h2;rw[<-h2]at hF0b;simp at hF0b
     rw[if_neg hn0,HTF.out];simp)
    go_wp2_with fail;go_ret;rw[HE.out,HGB.out];exact⟨rfl,HB0.out.2.trans (HB5.out.mono (Nat.le_of_lt HB0.out.1.lt))⟩
end Go.Proofs.YtoigpackhninoaaGreatDoor

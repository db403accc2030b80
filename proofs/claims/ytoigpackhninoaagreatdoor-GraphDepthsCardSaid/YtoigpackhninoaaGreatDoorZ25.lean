import Derived.Test.YtoigpackhninoaaGreatDoorGrInsR14
namespace Go.Proofs.YtoigpackhninoaaGreatDoor
open Gr
open _root_.Go.Proofs.Tryz
open _root_.Go.Lib (hid)
set_option maxRecDepth 100000
set_option maxHeartbeats 16000000
open Go.RowKit
theorem zwg {x:Gr.Mo} (h:MoOk x) (_hz:x.z=0) (of:Int) (lt:Bool) (W:World):
 Calls prog 105 #[.agg #[.bool x.date,.bool x.time,.bool false,.int .i64 (x.y:Int),.int .i64 (x.m:Int),.int .i64 (x.d:Int),.int .i64 (x.h:Int),.int .i64 (x.mi:Int),.int .i64 (x.c:Int),.int .i64 (x.nanos:Int),.int .i64 of,.bool lt]] W fun e W'=>e=.returned (.string ⟨(locS x).toArray⟩)/\Below W.heap.size W W':=by
 have a:=h.y;have b:=h.m;have c:=h.d;have d:=h.h;have e:=h.mi;have f:=h.c;have g:=h.nanos;rcases h.sh with⟨h1,h2⟩|⟨h1,h2,_⟩|⟨h1,h2,_⟩
 ·have:=zqr x.y x.m x.d x.h x.mi x.c x.nanos of lt (by omega) (by omega) (by omega) (by omega) (by omega) (by omega) g W;unfold locS;rw[h1,h2];simpa using this
 ·have:=zqp x.y x.m x.d x.h x.mi x.c x.nanos of lt (by omega) (by omega) (by omega) (by omega) (by omega) (by omega) g W;unfold locS;rw[h1,h2];simpa using this
 ·have:=zqq x.y x.m x.d x.h x.mi x.c x.nanos of lt (by omega) (by omega) (by omega) (by omega) (by omega) (by omega) g W;unfold locS;rw[h1,h2];simpa using this
theorem zfy (s:Gr.Str) (hl:s.length<=1073741823) (w:World):
 Calls prog 82 #[.string ⟨s.toArray⟩] w (RIPost (locP s) w):=by
 have HRD:=hid (fun W=>zdb s hl W);obtain⟨r,hr⟩:=ex (locP s)
 have HR:=hid hr;rw[hr];clear hr;have HIN:Hid (locP s=match Gr.rd s with|none=>([],3)|some x=>if x.z≠0 then([],3)else if okR x=false then([],13)else(locS x,0)):=hid rfl;cases hrd:Gr.rd s with
 |none=>
  have HF:Hid (r=([],3)):=hid (by rw[<-HR.out,HIN.out,hrd]);have HRN:=hid hrd;clear hrd;go_enter func82,ntmps82;go_wp2_with fail;refine(HRD.out _).mono ?_;rintro e w1 ⟨⟨t0,t1,t2,t3,t4,t5,t6,t7,t8,t9,t10,t11⟩,ok,rfl,hb1,hm⟩;rw[HRN.out]at hm;simp only at hm;subst hm;have HB1:=hid hb1;clear hb1;simp only[RT.v];go_wp2;go_ret2;rw[HF.out];exact⟨rfl,HB1.out.alloc HB1.out.size _⟩
 |some x=>
  have hok:=zqt hrd;have HRN:=hid hrd;have hrg:=zqu hok;by_cases hz:x.z=0
  ·have hzb:decide (x.z≠0)=false:=by simp[hz]
   have HZB:=hid hzb;obtain⟨lt,hlt⟩:=ex (decide (23<x.zh) || decide (59<x.zm))
   obtain⟨of,hof⟩:=ex (offS x)
   obtain⟨dt,hdt⟩:=ex x.date
   obtain⟨tm,htm⟩:=ex x.time
   have HLT:=hid (And.intro hlt hof);have HDT:=hid (And.intro hdt htm);rw[hdt,hlt]at hrg;have HRG:Hid (∀W,Calls prog 104 #[.agg #[.bool dt,.bool tm,.bool false,.int .i64 (x.y:Int),.int .i64 (x.m:Int),.int .i64 (x.d:Int),.int .i64 (x.h:Int),.int .i64 (x.mi:Int),.int .i64 (x.c:Int),.int .i64 (x.nanos:Int),.int .i64 of,.bool lt]] W fun e w'=>e=.returned (.bool (okR x))/\Below W.heap.size W w'):=hid (fun W=>by
    have:=zeg dt tm false (x.y:Int) (x.m:Int) (x.d:Int) (x.h:Int) (x.mi:Int) (x.c:Int) (x.nanos:Int) of lt W;rwa[hrg]at this)
   have HSW:=hid (fun W=>zwg hok hz of lt W);rw[hdt,htm]at HSW;have HIN2:Hid (r=if okR x=false then([],13)else(locS x,0)):=hid (by rw[<-HR.out,HIN.out,hrd];simp only;rw[if_neg (by simp[hz])]);obtain⟨M,hM⟩:=ex (locS x)
   rw[hM]at HIN2 HSW;obtain⟨ok2,hok2⟩:=ex (okR x)
   rw[hok2]at HIN2 HRG;clear hrd hok hrg hz hzb hdt hlt hof htm hM hok2 HIN;cases ok2 with
   |false=>
    have HF:Hid (r=([],13)):=hid (by rw[HIN2.out,if_pos rfl]);clear HIN2;go_enter func82,ntmps82;go_wp2_with fail;refine(HRD.out _).mono ?_;rintro e w1 ⟨t,ok,rfl,hb1,hm⟩;rw[HRN.out]at hm;simp only at hm;obtain⟨rfl,rfl⟩:=hm;have HB1:=hid hb1;clear hb1;simp only[RT.v,toRT,HZB.out,HDT.out.1,HDT.out.2,HLT.out.1,HLT.out.2];go_wp2_with fail;refine(HRG.out _).mono ?_;rintro e w2 ⟨rfl,hb2⟩;have HB2:Hid (Below w.heap.size w w2):=hid ((HB1.out.alloc HB1.out.size _).trans (hb2.mono (by have:=HB1.out.size;simp;omega)));clear hb2;go_wp2;go_ret2;rw[HF.out];exact⟨rfl,HB2.out⟩
   |true=>
    have HF:Hid (r=(M,0)):=hid (by rw[HIN2.out,if_neg (by decide)]);clear HIN2;go_enter func82,ntmps82;go_wp2_with fail;refine(HRD.out _).mono ?_;rintro e w1 ⟨t,ok,rfl,hb1,hm⟩;rw[HRN.out]at hm;simp only at hm;obtain⟨rfl,rfl⟩:=hm;have HB1:=hid hb1;clear hb1;simp only[RT.v,toRT,HZB.out,HDT.out.1,HDT.out.2,HLT.out.1,HLT.out.2];go_wp2_with fail;refine(HRG.out _).mono ?_;rintro e w2 ⟨rfl,hb2⟩;have HB2:Hid (Blk w2 w1.heap.size 111 (T12 dt tm false (x.y:Int) (x.m:Int) (x.d:Int) (x.h:Int) (x.mi:Int) (x.c:Int) (x.nanos:Int) of lt)/\Below w.heap.size w w2):=hid (by
     have hbx:=Blk.new w1 111 (T12 dt tm false (x.y:Int) (x.m:Int) (x.d:Int) (x.h:Int) (x.mi:Int) (x.c:Int) (x.nanos:Int) of lt);exact⟨hbx.below hb2 hbx.lt,(HB1.out.alloc HB1.out.size _).trans (hb2.mono (by have:=HB1.out.size;simp;omega))⟩)
    clear hb2;obtain⟨g4,hg4⟩:=ex w1.heap.size
    rw[hg4]at HB2 ⊢;clear hg4;obtain⟨q0,q1,q2,q3,q4,q5,q6,q7,q8,q9,q10,q11⟩:=zag HB2.out.1;go_wp2_with fail;refine(HSW.out _).mono ?_;rintro e w3 ⟨rfl,hb3⟩;have HB3:Hid (Below w.heap.size w w3):=hid (HB2.out.2.trans (hb3.mono HB2.out.2.size));clear hb3 q0 q1 q2 q3 q4 q5 q6 q7 q8 q9 q10 q11;go_wp2;go_ret2;rw[HF.out];exact⟨rfl,HB3.out⟩
  ·have HF:Hid (r=([],3)):=hid (by rw[<-HR.out,HIN.out,hrd];simp only;rw[if_pos hz]);have hzb:decide (x.z≠0)=true:=by simp[hz]
   have HZB:=hid hzb;clear hrd hok hrg hz hzb HIN;go_enter func82,ntmps82;go_wp2_with fail;refine(HRD.out _).mono ?_;rintro e w1 ⟨t,ok,rfl,hb1,hm⟩;rw[HRN.out]at hm;simp only at hm;obtain⟨rfl,rfl⟩:=hm;have HB1:=hid hb1;clear hb1;simp only[RT.v,toRT,HZB.out];go_wp2;go_ret2;rw[HF.out];exact⟨rfl,HB1.out.alloc HB1.out.size _⟩
theorem zm8 (s:Gr.Str) (hl:s.length<=1073741823) (w:World):
 Calls prog 48 #[.string ⟨s.toArray⟩] w fun e w'=>e=.returned (.bool (locB s))/\Below w.heap.size w w':=by
 have HC:=hid (zfy s hl w);have HB:Hid (locB s=decide ((locP s).2=0/\(locP s).1=s)):=hid rfl;obtain⟨r,hr⟩:=ex (locB s)
 rw[hr]at HB ⊢;obtain⟨⟨l,k⟩,hp⟩:∃p,locP s=p:=⟨_,rfl⟩
 rw[hp]at HC HB;obtain⟨ki,hki⟩:∃ki:Int,(k:Int)=ki:=⟨_,rfl⟩
 unfold RIPost at HC;simp only[hki]at HC HB;have HK:=hid hki;clear hr hp hki;by_cases h0:ki=0
 ·subst h0;have h0b:((0:Int)==0)=true:=rfl;by_cases hs:l=s
  ·have hsb:(l==s)=true:=by rw[beq_iff_eq];exact hs
   have HF:Hid (r=true):=hid (by rw[HB.out];simp[hs];have:=HK.out;omega);clear hs;go_enter func48,ntmps48;go_wp2_with fail;refine HC.out.mono ?_;rintro e w1 ⟨rfl,hb1⟩;have HB1:=hid hb1;clear hb1;go_wp2;go_ret;rw[HF.out];exact⟨rfl,HB1.out⟩
  ·have hsb:(l==s)=false:=by rw[beq_eq_false_iff_ne];exact hs
   have HF:Hid (r=false):=hid (by rw[HB.out];simp[hs]);clear hs;go_enter func48,ntmps48;go_wp2_with fail;refine HC.out.mono ?_;rintro e w1 ⟨rfl,hb1⟩;have HB1:=hid hb1;clear hb1;go_wp2;go_ret;rw[HF.out];exact⟨rfl,HB1.out⟩
 ·have h0b:(ki==0)=false:=by simpa using h0
  have HF:Hid (r=false):=hid (by rw[HB.out];simp;intro e;exact absurd (by have:=HK.out;omega) h0);go_enter func48,ntmps48;go_wp2_with fail;refine HC.out.mono ?_;rintro e w1 ⟨rfl,hb1⟩;have HB1:=hid hb1;clear hb1;go_wp2;go_ret;rw[HF.out];exact⟨rfl,HB1.out⟩
def zdq (b:Bool) (w:World) (e:Ending) (w':World):Prop:=∃t:RT,e=.returned (.tuple #[t.v,.bool b])/\Below w.heap.size w w'
theorem zm9 (s:Gr.Str) (hl:s.length<=1073741823) (w:World):
 Calls prog 81 #[.string ⟨s.toArray⟩] w (zdq (insB s) w):=by
 have HC:=hid (fun W=>zeh s hl W);have HRD:=hid (fun W=>zdb s hl W);have HB:Hid (insB s=decide ((insP s).2=0/\(insP s).1=s)):=hid rfl;obtain⟨r,hr⟩:=ex (insB s)
 rw[hr]at HB ⊢;obtain⟨⟨l,k⟩,hp⟩:∃p,insP s=p:=⟨_,rfl⟩
 rw[hp]at HC HB;obtain⟨ki,hki⟩:∃ki:Int,(k:Int)=ki:=⟨_,rfl⟩
 unfold RIPost at HC;simp only[hki]at HC HB;have HK:=hid hki;clear hr hp hki;have hc:ki≠0\/(ki=0/\l≠s)\/(ki=0/\l=s):=by
  by_cases h0:ki=0
  ·by_cases hs:l=s
   ·exact .inr (.inr ⟨h0,hs⟩)
   ·exact .inr (.inl ⟨h0,hs⟩)
  ·exact .inl h0
 rcases hc with h0|⟨rfl,hs⟩|⟨rfl,hs⟩
 ·have h0b:(ki==0)=false:=by simpa using h0
  have h0c:(ki != 0)=true:=by rw[bne,h0b];rfl
  have HF:Hid (r=false):=hid (by rw[HB.out];simp;intro e;exact absurd (by have:=HK.out;omega) h0);go_enter func81,ntmps81;go_upto_region 1 with fail;obtain⟨gb,hgb⟩:=ex w.heap.size
  obtain⟨w0,hw0⟩:∃w0,w0=w.alloc (.cells #[.bool false,.bool false,.bool false,.int .i64 0,.int .i64 0,.int .i64 0,.int .i64 0,.int .i64 0,.int .i64 0,.int .i64 0,.int .i64 0,.bool false] 111):=⟨_,rfl⟩
  have HB0:Hid (Blk w0 gb 111 (T12 false false false 0 0 0 0 0 0 0 0 false)/\Below gb w w0):=hid (by rw[hw0,<-hgb];exact⟨Blk.new _ _ _,(Below.refl _ _).alloc (Nat.le_refl _) _⟩);have HGB:=hid hgb;(try rw[<-hw0]);(try rw[hgb]);clear hw0 hgb;go_wp2_with fail;refine(HC.out _).mono ?_;rintro e w1 ⟨rfl,hb1⟩;have HB1:Hid (Blk w1 gb 111 (T12 false false false 0 0 0 0 0 0 0 0 false)/\Below gb w w1):=hid ⟨HB0.out.1.below hb1 HB0.out.1.lt,HB0.out.2.trans (hb1.mono (Nat.le_of_lt HB0.out.1.lt))⟩;clear hb1;have xb:∀j,w1.cell? ⟨gb,j,none⟩=(#[.bool false,.bool false,.bool false,.int .i64 0,.int .i64 0,.int .i64 0,.int .i64 0,.int .i64 0,.int .i64 0,.int .i64 0,.int .i64 0,.bool false]:Array Value)[j]? :=fun j=>HB1.out.1.cell j
  have xf:∀j,w1.frozen? ⟨gb,j,none⟩=false:=HB1.out.1.frozen;go_wp2_with fail;have HSB:Blk ((((((((((((w1.setCell ⟨gb,0,none⟩ (.bool false)).setCell ⟨gb,1,none⟩ (.bool false)).setCell ⟨gb,2,none⟩ (.bool false)).setCell ⟨gb,3,none⟩ (.int .i64 0)).setCell ⟨gb,4,none⟩ (.int .i64 0)).setCell ⟨gb,5,none⟩ (.int .i64 0)).setCell ⟨gb,6,none⟩ (.int .i64 0)).setCell ⟨gb,7,none⟩ (.int .i64 0)).setCell ⟨gb,8,none⟩ (.int .i64 0)).setCell ⟨gb,9,none⟩ (.int .i64 0)).setCell ⟨gb,10,none⟩ (.int .i64 0)).setCell ⟨gb,11,none⟩ (.bool false)) gb 111 (T12 false false false 0 0 0 0 0 0 0 0 false):=zbb HB1.out.1;have HSH:Below gb w ((((((((((((w1.setCell ⟨gb,0,none⟩ (.bool false)).setCell ⟨gb,1,none⟩ (.bool false)).setCell ⟨gb,2,none⟩ (.bool false)).setCell ⟨gb,3,none⟩ (.int .i64 0)).setCell ⟨gb,4,none⟩ (.int .i64 0)).setCell ⟨gb,5,none⟩ (.int .i64 0)).setCell ⟨gb,6,none⟩ (.int .i64 0)).setCell ⟨gb,7,none⟩ (.int .i64 0)).setCell ⟨gb,8,none⟩ (.int .i64 0)).setCell ⟨gb,9,none⟩ (.int .i64 0)).setCell ⟨gb,10,none⟩ (.int .i64 0)).setCell ⟨gb,11,none⟩ (.bool false)):=zcc HB1.out.2 (Nat.le_refl gb);obtain⟨e0,e1,e2,e3,e4,e5,e6,e7,e8,e9,e10,e11⟩:=zag HSB;refine bodyPost_ret (v:=.tuple #[.agg #[.bool false,.bool false,.bool false,.int .i64 0,.int .i64 0,.int .i64 0,.int .i64 0,.int .i64 0,.int .i64 0,.int .i64 0,.int .i64 0,.bool false],.bool false]) (by rw[results_cell_tmp rfl];go_simp) rfl ?_;unfold zdq;rw[HGB.out,HF.out];exact⟨RT.z,rfl,HSH⟩
 ·have hsb:(l==s)=false:=by rw[beq_eq_false_iff_ne];exact hs
  have hsc:(l != s)=true:=by rw[bne,hsb];rfl
  have HF:Hid (r=false):=hid (by rw[HB.out];simp[hs]);clear hs;go_enter func81,ntmps81;go_upto_region 1 with fail;obtain⟨gb,hgb⟩:=ex w.heap.size
  obtain⟨w0,hw0⟩:∃w0,w0=w.alloc (.cells #[.bool false,.bool false,.bool false,.int .i64 0,.int .i64 0,.int .i64 0,.int .i64 0,.int .i64 0,.int .i64 0,.int .i64 0,.int .i64 0,.bool false] 111):=⟨_,rfl⟩
  have HB0:Hid (Blk w0 gb 111 (T12 false false false 0 0 0 0 0 0 0 0 false)/\Below gb w w0):=hid (by rw[hw0,<-hgb];exact⟨Blk.new _ _ _,(Below.refl _ _).alloc (Nat.le_refl _) _⟩);have HGB:=hid hgb;(try rw[<-hw0]);(try rw[hgb]);clear hw0 hgb;go_wp2_with fail;refine(HC.out _).mono ?_;rintro e w1 ⟨rfl,hb1⟩;have HB1:Hid (Blk w1 gb 111 (T12 false false false 0 0 0 0 0 0 0 0 false)/\Below gb w w1):=hid ⟨HB0.out.1.below hb1 HB0.out.1.lt,HB0.out.2.trans (hb1.mono (Nat.le_of_lt HB0.out.1.lt))⟩;clear hb1;have xb:∀j,w1.cell? ⟨gb,j,none⟩=(#[.bool false,.bool false,.bool false,.int .i64 0,.int .i64 0,.int .i64 0,.int .i64 0,.int .i64 0,.int .i64 0,.int .i64 0,.int .i64 0,.bool false]:Array Value)[j]? :=fun j=>HB1.out.1.cell j
  have xf:∀j,w1.frozen? ⟨gb,j,none⟩=false:=HB1.out.1.frozen;go_wp2_with fail;have HSB:Blk ((((((((((((w1.setCell ⟨gb,0,none⟩ (.bool false)).setCell ⟨gb,1,none⟩ (.bool false)).setCell ⟨gb,2,none⟩ (.bool false)).setCell ⟨gb,3,none⟩ (.int .i64 0)).setCell ⟨gb,4,none⟩ (.int .i64 0)).setCell ⟨gb,5,none⟩ (.int .i64 0)).setCell ⟨gb,6,none⟩ (.int .i64 0)).setCell ⟨gb,7,none⟩ (.int .i64 0)).setCell ⟨gb,8,none⟩ (.int .i64 0)).setCell ⟨gb,9,none⟩ (.int .i64 0)).setCell ⟨gb,10,none⟩ (.int .i64 0)).setCell ⟨gb,11,none⟩ (.bool false)) gb 111 (T12 false false false 0 0 0 0 0 0 0 0 false):=zbb HB1.out.1;have HSH:Below gb w ((((((((((((w1.setCell ⟨gb,0,none⟩ (.bool false)).setCell ⟨gb,1,none⟩ (.bool false)).setCell ⟨gb,2,none⟩ (.bool false)).setCell ⟨gb,3,none⟩ (.int .i64 0)).setCell ⟨gb,4,none⟩ (.int .i64 0)).setCell ⟨gb,5,none⟩ (.int .i64 0)).setCell ⟨gb,6,none⟩ (.int .i64 0)).setCell ⟨gb,7,none⟩ (.int .i64 0)).setCell ⟨gb,8,none⟩ (.int .i64 0)).setCell ⟨gb,9,none⟩ (.int .i64 0)).setCell ⟨gb,10,none⟩ (.int .i64 0)).setCell ⟨gb,11,none⟩ (.bool false)):=zcc HB1.out.2 (Nat.le_refl gb);obtain⟨e0,e1,e2,e3,e4,e5,e6,e7,e8,e9,e10,e11⟩:=zag HSB;refine bodyPost_ret (v:=.tuple #[.agg #[.bool false,.bool false,.bool false,.int .i64 0,.int .i64 0,.int .i64 0,.int .i64 0,.int .i64 0,.int .i64 0,.int .i64 0,.int .i64 0,.bool false],.bool false]) (by rw[results_cell_tmp rfl];go_simp) rfl ?_;unfold zdq;rw[HGB.out,HF.out];exact⟨RT.z,rfl,HSH⟩
 ·have hsb:(l==s)=true:=by rw[beq_iff_eq];exact hs
  have hsc:(l != s)=false:=by rw[bne,hsb];rfl
  have HF:Hid (r=true):=hid (by rw[HB.out];simp[hs];have:=HK.out;omega);clear hs;go_enter func81,ntmps81;go_upto_region 1 with fail;obtain⟨gb,hgb⟩:=ex w.heap.size
  obtain⟨w0,hw0⟩:∃w0,w0=w.alloc (.cells #[.bool false,.bool false,.bool false,.int .i64 0,.int .i64 0,.int .i64 0,.int .i64 0,.int .i64 0,.int .i64 0,.int .i64 0,.int .i64 0,.bool false] 111):=⟨_,rfl⟩
  have HB0:Hid (Blk w0 gb 111 (T12 false false false 0 0 0 0 0 0 0 0 false)/\Below gb w w0):=hid (by rw[hw0,<-hgb];exact⟨Blk.new _ _ _,(Below.refl _ _).alloc (Nat.le_refl _) _⟩);have HGB:=hid hgb;(try rw[<-hw0]);(try rw[hgb]);clear hw0 hgb;go_wp2_with fail;refine(HC.out _).mono ?_;rintro e w1 ⟨rfl,hb1⟩;have HB1:Hid (Blk w1 gb 111 (T12 false false false 0 0 0 0 0 0 0 0 false)/\Below gb w w1):=hid ⟨HB0.out.1.below hb1 HB0.out.1.lt,HB0.out.2.trans (hb1.mono (Nat.le_of_lt HB0.out.1.lt))⟩;clear hb1;go_wp2_with fail;refine(HRD.out _).mono ?_;rintro e w2 ⟨⟨t0,t1,t2,t3,t4,t5,t6,t7,t8,t9,t10,t11⟩,ok,rfl,hb2,_⟩;have HB2:Hid (Blk w2 gb 111 (T12 false false false 0 0 0 0 0 0 0 0 false)/\Below gb w w2):=hid ⟨HB1.out.1.below hb2 HB1.out.1.lt,HB1.out.2.trans (hb2.mono (Nat.le_of_lt HB1.out.1.lt))⟩;clear hb2;simp only[RT.v];go_upto_region 5 with fail;obtain⟨g6,hg6⟩:=ex w2.heap.size
  obtain⟨w3,hw3⟩:=ex (w2.alloc (.cells #[.bool t0,.bool t1,.bool t2,.int .i64 t3,.int .i64 t4,.int .i64 t5,.int .i64 t6,.int .i64 t7,.int .i64 t8,.int .i64 t9,.int .i64 t10,.bool t11] 111))
  have HB3:Hid (Blk w3 gb 111 (T12 false false false 0 0 0 0 0 0 0 0 false)/\Below gb w w3/\Blk w3 g6 111 (T12 t0 t1 t2 t3 t4 t5 t6 t7 t8 t9 t10 t11)):=hid (by rw[<-hw3,<-hg6];exact⟨HB2.out.1.alloc _,HB2.out.2.alloc (Nat.le_of_lt HB2.out.1.lt) _,Blk.new _ _ _⟩);(try rw[hw3]);(try rw[hg6]);clear hw3 hg6;obtain⟨q0,q1,q2,q3,q4,q5,q6,q7,q8,q9,q10,q11⟩:=zag HB3.out.2.2;have HB4:Hid (Blk w3 gb 111 (T12 false false false 0 0 0 0 0 0 0 0 false)/\Below gb w w3):=hid ⟨HB3.out.1,HB3.out.2.1⟩;have xb:∀j,w3.cell? ⟨gb,j,none⟩=(#[.bool false,.bool false,.bool false,.int .i64 0,.int .i64 0,.int .i64 0,.int .i64 0,.int .i64 0,.int .i64 0,.int .i64 0,.int .i64 0,.bool false]:Array Value)[j]? :=fun j=>HB4.out.1.cell j
  have xf:∀j,w3.frozen? ⟨gb,j,none⟩=false:=HB4.out.1.frozen;go_wp2_with fail;have HSB:Blk ((((((((((((w3.setCell ⟨gb,0,none⟩ (.bool t0)).setCell ⟨gb,1,none⟩ (.bool t1)).setCell ⟨gb,2,none⟩ (.bool t2)).setCell ⟨gb,3,none⟩ (.int .i64 t3)).setCell ⟨gb,4,none⟩ (.int .i64 t4)).setCell ⟨gb,5,none⟩ (.int .i64 t5)).setCell ⟨gb,6,none⟩ (.int .i64 t6)).setCell ⟨gb,7,none⟩ (.int .i64 t7)).setCell ⟨gb,8,none⟩ (.int .i64 t8)).setCell ⟨gb,9,none⟩ (.int .i64 t9)).setCell ⟨gb,10,none⟩ (.int .i64 t10)).setCell ⟨gb,11,none⟩ (.bool t11)) gb 111 (T12 t0 t1 t2 t3 t4 t5 t6 t7 t8 t9 t10 t11):=zbb HB4.out.1;have HSH:Below gb w ((((((((((((w3.setCell ⟨gb,0,none⟩ (.bool t0)).setCell ⟨gb,1,none⟩ (.bool t1)).setCell ⟨gb,2,none⟩ (.bool t2)).setCell ⟨gb,3,none⟩ (.int .i64 t3)).setCell ⟨gb,4,none⟩ (.int .i64 t4)).setCell ⟨gb,5,none⟩ (.int .i64 t5)).setCell ⟨gb,6,none⟩ (.int .i64 t6)).setCell ⟨gb,7,none⟩ (.int .i64 t7)).setCell ⟨gb,8,none⟩ (.int .i64 t8)).setCell ⟨gb,9,none⟩ (.int .i64 t9)).setCell ⟨gb,10,none⟩ (.int .i64 t10)).setCell ⟨gb,11,none⟩ (.bool t11)):=zcc HB4.out.2 (Nat.le_refl gb);obtain⟨e0,e1,e2,e3,e4,e5,e6,e7,e8,e9,e10,e11⟩:=zag HSB;refine bodyPost_ret (v:=.tuple #[.agg #[.bool t0,.bool t1,.bool t2,.int .i64 t3,.int .i64 t4,.int .i64 t5,.int .i64 t6,.int .i64 t7,.int .i64 t8,.int .i64 t9,.int .i64 t10,.bool t11],.bool true]) (by rw[results_cell_tmp rfl];go_simp) rfl ?_;unfold zdq;rw[HGB.out,HF.out];exact⟨⟨t0,t1,t2,t3,t4,t5,t6,t7,t8,t9,t10,t11⟩,rfl,HSH⟩
theorem ziz (s:Gr.Str) (hl:s.length<=1073741823) (w:World):
 Calls prog 47 #[.string ⟨s.toArray⟩] w fun e w'=>e=.returned (.bool (insB s))/\Below w.heap.size w w':=by
 have HC:=hid (zm9 s hl w);obtain⟨r,hr⟩:=ex (insB s)
 rw[hr]at HC ⊢;clear hr;go_enter func47,ntmps47;go_wp2_with fail;refine HC.out.mono ?_;rintro e w1 ⟨⟨t0,t1,t2,t3,t4,t5,t6,t7,t8,t9,t10,t11⟩,rfl,hb1⟩;have HB1:=hid hb1;clear hb1;simp only[RT.v];go_wp2;go_ret;exact⟨rfl,HB1.out.alloc HB1.out.size _⟩
end Go.Proofs.YtoigpackhninoaaGreatDoor

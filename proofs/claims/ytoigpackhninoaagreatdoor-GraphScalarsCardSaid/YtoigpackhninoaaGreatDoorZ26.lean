import Derived.Test.YtoigpackhninoaaGreatDoorZ25
namespace Go.Proofs.YtoigpackhninoaaGreatDoor
open Gr
open _root_.Go.Proofs.Tryz
open _root_.Go.Lib (hid)
set_option maxRecDepth 100000
set_option maxHeartbeats 16000000
open Go.RowKit
theorem znd {x:Gr.Mo} (_h:MoOk x) (hr:okR x=true) (hd:x.date=true):Cal.vld x.y x.m x.d=true/\-63000000000<=secs x/\secs x<=260000000000/\-1000000<=offS x/\offS x<=1000000:=by
 unfold okR at hr;rw[hd]at hr;simp only[Bool.not_true,Bool.false_or,Bool.and_eq_true,decide_eq_true_eq]at hr;obtain⟨⟨⟨⟨⟨hv,h1⟩,h2⟩,h3⟩,h4⟩,h5⟩:=hr;have hb:=Cal.zuf hv;have ho:-1000000<=offS x/\offS x<=1000000:=by unfold offS;split<;>omega
 refine⟨hv,?_,?_,ho⟩
 ·unfold secs;omega
 ·unfold secs;omega
def RIPost (r:Gr.Str×Nat) (w:World) (e:Ending) (w':World):Prop:=e=.returned (.tuple #[.string ⟨r.1.toArray⟩,.int .i64 (r.2:Nat)])/\Below w.heap.size w w'
theorem ztp {n _nanos:Int} {y m d:Int} (hv:Cal.vld y m d=true) (hn:Cal.num y m d=(n+62167219200) /86400-719528):∃a b c:Nat,y=a/\m=b/\d=c/\a<=999999999/\b<=999999999/\c<=999999999/\dateOf (n /86400)=(a,b,c):=by
 have h:=Cal.zmc hv;have hd:=Cal.ztc y m;refine⟨y.toNat,m.toNat,d.toNat,by omega,by omega,by omega,by omega,by omega,by omega,?_⟩;apply zgr
 ·rw[show((y.toNat:Nat):Int)=y from by omega,show((m.toNat:Nat):Int)=m from by omega,show((d.toNat:Nat):Int)=d from by omega];exact hv
 ·rw[show((y.toNat:Nat):Int)=y from by omega,show((m.toNat:Nat):Int)=m from by omega,show((d.toNat:Nat):Int)=d from by omega,hn];omega
theorem ofshow (n:Int) (nanos:Nat) (_h0:-62167219200<=n) (_h1:n<=253402300799) (hn:nanos<=999999999) (w:World) (e:Ending) (w':World) (h:OfPost (n+62167219200) (nanos:Int) w e w'):
 ∃a b c p q r:Nat,e=.returned (.agg #[.bool true,.bool true,.bool true,.int .i64 (a:Int),.int .i64 (b:Int),.int .i64 (c:Int),.int .i64 (p:Int),.int .i64 (q:Int),.int .i64 (r:Int),.int .i64 (nanos:Int),.int .i64 0,.bool false])/\Below w.heap.size w w'/\
 (∀W,Calls prog 105 #[.agg #[.bool true,.bool true,.bool true,.int .i64 (a:Int),.int .i64 (b:Int),.int .i64 (c:Int),.int .i64 (p:Int),.int .i64 (q:Int),.int .i64 (r:Int),.int .i64 (nanos:Int),.int .i64 0,.bool false]] W fun e W'=>e=.returned (.string ⟨(momS (n /86400) (n%86400).toNat nanos).toArray⟩)/\Below W.heap.size W W'):=by
 obtain⟨y,m,d,hv,hnum,he,hb⟩:=h;obtain⟨a,b,c,rfl,rfl,rfl,ha,hbb,hc,hdo⟩:=ztp (_nanos:=nanos) hv hnum;refine⟨a,b,c,(n%86400).toNat /3600,(n%86400).toNat /60%60,(n%86400).toNat%60,?_,hb,fun W=>?_⟩
 ·rw[he,show(n+62167219200)%86400 /3600=(((n%86400).toNat /3600:Nat):Int)from by omega,show(n+62167219200)%86400 /60%60=(((n%86400).toNat /60%60:Nat):Int)from by omega,show(n+62167219200)%86400%60=(((n%86400).toNat%60:Nat):Int)from by omega]
 ·have:=zna a b c ((n%86400).toNat /3600) ((n%86400).toNat /60%60) ((n%86400).toNat%60) nanos 0 false ha hbb hc (by omega) (by omega) (by omega) hn W;rw[show momS (n /86400) (n%86400).toNat nanos=dateS a b c++[84]++clkS ((n%86400).toNat /3600) ((n%86400).toNat /60%60) ((n%86400).toNat%60) nanos++[90]from by unfold momS;rw[hdo];simp];exact this
theorem zdl (s:Gr.Str) (hl:s.length<=1073741823) (w:World):
 Calls prog 102 #[.string ⟨s.toArray⟩] w (RIPost (insP s) w):=by
 have HRD:=hid (fun W=>zcm s hl W);have HSH:Hid (insP s=insP s):=hid rfl;obtain⟨r,hr⟩:=ex (insP s)
 have HR:=hid hr;rw[hr];clear hr HSH;have HIN:Hid (insP s=match Gr.rd s with|none=>([],3)|some x=>if x.z=0 then([],3)else if okR x=false then([],13)else if secs x< -62167219200\/253402300800<=secs x then([],13)else(momS (secs x /86400) (secs x%86400).toNat x.nanos,0)):=hid rfl;cases hrd:Gr.rd s with
 |none=>
  have HF:Hid (r=([],3)):=hid (by rw[<-HR.out,HIN.out,hrd]);have HRN:=hid hrd;clear hrd;go_enter func102,ntmps102;go_wp2_with fail;refine(HRD.out _).mono ?_;rintro e w1 ⟨⟨t0,t1,t2,t3,t4,t5,t6,t7,t8,t9,t10,t11⟩,ok,rfl,hb1,hm⟩;rw[HRN.out]at hm;simp only at hm;subst hm;have HB1:=hid hb1;clear hb1;simp only[RT.v];go_wp2;go_ret2;rw[HF.out];exact⟨rfl,HB1.out.alloc HB1.out.size _⟩
 |some x=>
  have hok:=znb hrd;have HOK:=hid hok;have HRN:=hid hrd;have hrg:=znc hok;have HZ:Hid (decide (x.z≠0)=!decide (x.z=0)):=hid (by simp);by_cases hz:x.z=0
  ·have HF:Hid (r=([],3)):=hid (by rw[<-HR.out,HIN.out,hrd];simp only;rw[if_pos hz]);have hzb:decide (x.z≠0)=false:=by simp[hz]
   have HZB:=hid hzb;clear hrd hok hrg hz hzb;go_enter func102,ntmps102;go_wp2_with fail;refine(HRD.out _).mono ?_;rintro e w1 ⟨t,ok,rfl,hb1,hm⟩;rw[HRN.out]at hm;simp only at hm;obtain⟨rfl,rfl⟩:=hm;have HB1:=hid hb1;clear hb1;simp only[RT.v,toRT,HZB.out];go_wp2;go_ret2;rw[HF.out];exact⟨rfl,HB1.out.alloc HB1.out.size _⟩
  ·have hzb:decide (x.z≠0)=true:=by simp[hz]
   have hdt:x.date=true/\x.time=true:=by
    rcases hok.sh with h|⟨_,_,h⟩|⟨_,_,h⟩
    ·exact h
    ·exact absurd h hz
    ·exact absurd h hz
   have HZB:=hid hzb;have HDT:=hid hdt;obtain⟨lt,hlt⟩:=ex (decide (23<x.zh) || decide (59<x.zm))
   obtain⟨of,hof⟩:=ex (offS x)
   have HLT:=hid (And.intro hlt hof);rw[hdt.1,hlt]at hrg;have HRG:Hid (∀W,Calls prog 104 #[.agg #[.bool true,.bool true,.bool true,.int .i64 (x.y:Int),.int .i64 (x.m:Int),.int .i64 (x.d:Int),.int .i64 (x.h:Int),.int .i64 (x.mi:Int),.int .i64 (x.c:Int),.int .i64 (x.nanos:Int),.int .i64 of,.bool lt]] W fun e w'=>e=.returned (.bool (okR x))/\Below W.heap.size W w'):=hid (fun W=>by
    have:=zdk true true true (x.y:Int) (x.m:Int) (x.d:Int) (x.h:Int) (x.mi:Int) (x.c:Int) (x.nanos:Int) of lt W;rwa[hrg]at this)
   by_cases hr:okR x=false
   ·have HF:Hid (r=([],13)):=hid (by rw[<-HR.out,HIN.out,hrd];simp only;rw[if_neg hz,if_pos hr]);rw[hr]at HRG;clear hrd hok hrg hz hzb hdt hlt hof hr;go_enter func102,ntmps102;go_wp2_with fail;refine(HRD.out _).mono ?_;rintro e w1 ⟨t,ok,rfl,hb1,hm⟩;rw[HRN.out]at hm;simp only at hm;obtain⟨rfl,rfl⟩:=hm;have HB1:=hid hb1;clear hb1;simp only[RT.v,toRT,HZB.out,HDT.out.1,HDT.out.2,HLT.out.1,HLT.out.2];go_wp2_with fail;refine(HRG.out _).mono ?_;rintro e w2 ⟨rfl,hb2⟩;have HB2:Hid (Below w.heap.size w w2):=hid ((HB1.out.alloc HB1.out.size _).trans (hb2.mono (by have:=HB1.out.size;simp;omega)));clear hb2;go_wp2;go_ret2;rw[HF.out];exact⟨rfl,HB2.out⟩
   ·rw[Bool.not_eq_false]at hr;rw[hr]at HRG;obtain⟨hv,hs0,hs1,ho0,ho1⟩:=znd hok hr hdt.1;have hvv:=Cal.zmc hv;have hdb:=Cal.ztc x.y x.m;rw[hof]at ho0 ho1;have hsq:86400*Cal.num x.y x.m x.d+3600*(x.h:Int)+60*(x.mi:Int)+(x.c:Int)-of=secs x:=by unfold secs;rw[hof];omega
    have HSQ:Hid (∀W,Calls prog 132 #[.agg #[.bool true,.bool true,.bool true,.int .i64 (x.y:Int),.int .i64 (x.m:Int),.int .i64 (x.d:Int),.int .i64 (x.h:Int),.int .i64 (x.mi:Int),.int .i64 (x.c:Int),.int .i64 (x.nanos:Int),.int .i64 of,.bool lt]] W fun e w'=>e=.returned (.int .i64 (secs x))/\Below W.heap.size W w'):=hid (fun W=>by
     have h1:=hok.h;have h2:=hok.mi;have h3:=hok.c;have:=zg2 true true true (x.y:Int) (x.m:Int) (x.d:Int) (x.h:Int) (x.mi:Int) (x.c:Int) (x.nanos:Int) of lt (by omega) (by omega) (by omega) (by omega) (by omega) (by omega) (by omega) (by omega) (by omega) (by omega) (by omega) (by omega) ho0 ho1 W;rwa[hsq]at this)
    have hnn:=hok.nanos;obtain⟨n,hn⟩:=ex (secs x)
    rw[hn]at HSQ hs0 hs1;have HN:=hid hn;have HIN2:Hid (r=if n< -62167219200\/253402300800<=n then([],13)else(momS (n /86400) (n%86400).toNat x.nanos,0)):=hid (by rw[<-HR.out,HIN.out,hrd];simp only;rw[if_neg hz,if_neg (by rw[hr];decide),hn]);have HOF:Hid (∀W,-62167219200<=n->n<=253402300799->Calls prog 133 #[.int .i64 n,.int .i64 (x.nanos:Int)] W (OfPost (n+62167219200) (x.nanos:Int) W)):=hid (fun W a b=>zr3 n (n+62167219200) (x.nanos:Int) (by omega) (by omega) (by omega) W);clear hrd hok hrg hz hzb hdt hlt hof hr hv hvv hdb ho0 ho1 hsq hn HIN;by_cases h1:n< -62167219200
    ·have HF:Hid (r=([],13)):=hid (by rw[HIN2.out,if_pos (.inl h1)]);clear HIN2;go_enter func102,ntmps102;go_wp2_with fail;refine(HRD.out _).mono ?_;rintro e w1 ⟨t,ok,rfl,hb1,hm⟩;rw[HRN.out]at hm;simp only at hm;obtain⟨rfl,rfl⟩:=hm;have HB1:=hid hb1;clear hb1;simp only[RT.v,toRT,HZB.out,HDT.out.1,HDT.out.2,HLT.out.1,HLT.out.2];go_wp2_with fail;refine(HRG.out _).mono ?_;rintro e w2 ⟨rfl,hb2⟩;have HB2:Hid (Blk w2 w1.heap.size 111 (T12 true true true (x.y:Int) (x.m:Int) (x.d:Int) (x.h:Int) (x.mi:Int) (x.c:Int) (x.nanos:Int) of lt)/\Below w.heap.size w w2/\w1.heap.size<w2.heap.size):=hid (by
      have hbx:=Blk.new w1 111 (T12 true true true (x.y:Int) (x.m:Int) (x.d:Int) (x.h:Int) (x.mi:Int) (x.c:Int) (x.nanos:Int) of lt);exact⟨hbx.below hb2 hbx.lt,(HB1.out.alloc HB1.out.size _).trans (hb2.mono (by have:=HB1.out.size;simp;omega)),by have:=hb2.size;simp at this;omega⟩)
     clear hb2;obtain⟨g4,hg4⟩:=ex w1.heap.size
     rw[hg4]at HB2 ⊢;clear hg4;obtain⟨q0,q1,q2,q3,q4,q5,q6,q7,q8,q9,q10,q11⟩:=zaf HB2.out.1;go_wp2_with fail;refine(HSQ.out _).mono ?_;rintro e w3 ⟨rfl,hb3⟩;have HB3:Hid (Blk w3 g4 111 (T12 true true true (x.y:Int) (x.m:Int) (x.d:Int) (x.h:Int) (x.mi:Int) (x.c:Int) (x.nanos:Int) of lt)/\Below w.heap.size w w3):=hid ⟨HB2.out.1.below hb3 HB2.out.1.lt,HB2.out.2.1.trans (hb3.mono HB2.out.2.1.size)⟩;clear hb3 q0 q1 q2 q3 q4 q5 q6 q7 q8 q9 q10 q11;go_wp2;go_ret2;rw[HF.out];exact⟨rfl,HB3.out.2⟩
    ·by_cases h2:253402300799<n
     ·have HF:Hid (r=([],13)):=hid (by rw[HIN2.out,if_pos (.inr (by omega))]);clear HIN2;go_enter func102,ntmps102;go_wp2_with fail;refine(HRD.out _).mono ?_;rintro e w1 ⟨t,ok,rfl,hb1,hm⟩;rw[HRN.out]at hm;simp only at hm;obtain⟨rfl,rfl⟩:=hm;have HB1:=hid hb1;clear hb1;simp only[RT.v,toRT,HZB.out,HDT.out.1,HDT.out.2,HLT.out.1,HLT.out.2];go_wp2_with fail;refine(HRG.out _).mono ?_;rintro e w2 ⟨rfl,hb2⟩;have HB2:Hid (Blk w2 w1.heap.size 111 (T12 true true true (x.y:Int) (x.m:Int) (x.d:Int) (x.h:Int) (x.mi:Int) (x.c:Int) (x.nanos:Int) of lt)/\Below w.heap.size w w2/\w1.heap.size<w2.heap.size):=hid (by
       have hbx:=Blk.new w1 111 (T12 true true true (x.y:Int) (x.m:Int) (x.d:Int) (x.h:Int) (x.mi:Int) (x.c:Int) (x.nanos:Int) of lt);exact⟨hbx.below hb2 hbx.lt,(HB1.out.alloc HB1.out.size _).trans (hb2.mono (by have:=HB1.out.size;simp;omega)),by have:=hb2.size;simp at this;omega⟩)
      clear hb2;obtain⟨g4,hg4⟩:=ex w1.heap.size
      rw[hg4]at HB2 ⊢;clear hg4;obtain⟨q0,q1,q2,q3,q4,q5,q6,q7,q8,q9,q10,q11⟩:=zaf HB2.out.1;go_wp2_with fail;refine(HSQ.out _).mono ?_;rintro e w3 ⟨rfl,hb3⟩;have HB3:Hid (Blk w3 g4 111 (T12 true true true (x.y:Int) (x.m:Int) (x.d:Int) (x.h:Int) (x.mi:Int) (x.c:Int) (x.nanos:Int) of lt)/\Below w.heap.size w w3):=hid ⟨HB2.out.1.below hb3 HB2.out.1.lt,HB2.out.2.1.trans (hb3.mono HB2.out.2.1.size)⟩;clear hb3 q0 q1 q2 q3 q4 q5 q6 q7 q8 q9 q10 q11;go_wp2;go_ret2;rw[HF.out];exact⟨rfl,HB3.out.2⟩
     ·have HF:Hid (r=(momS (n /86400) (n%86400).toNat x.nanos,0)):=hid (by rw[HIN2.out,if_neg (by omega)]);have HOF2:=hid (fun W=>HOF.out W (by omega) (by omega));have HOS:=hid (fun W e W' h=>ofshow n x.nanos (by omega) (by omega) hnn W e W' h);obtain⟨M,hM⟩:=ex (momS (n /86400) (n%86400).toNat x.nanos)
      rw[hM]at HF HOS;clear hM;clear HIN2 HOF;go_enter func102,ntmps102;go_wp2_with fail;refine(HRD.out _).mono ?_;rintro e w1 ⟨t,ok,rfl,hb1,hm⟩;rw[HRN.out]at hm;simp only at hm;obtain⟨rfl,rfl⟩:=hm;have HB1:=hid hb1;clear hb1;simp only[RT.v,toRT,HZB.out,HDT.out.1,HDT.out.2,HLT.out.1,HLT.out.2];go_wp2_with fail;refine(HRG.out _).mono ?_;rintro e w2 ⟨rfl,hb2⟩;have HB2:Hid (Blk w2 w1.heap.size 111 (T12 true true true (x.y:Int) (x.m:Int) (x.d:Int) (x.h:Int) (x.mi:Int) (x.c:Int) (x.nanos:Int) of lt)/\Below w.heap.size w w2/\w1.heap.size<w2.heap.size):=hid (by
       have hbx:=Blk.new w1 111 (T12 true true true (x.y:Int) (x.m:Int) (x.d:Int) (x.h:Int) (x.mi:Int) (x.c:Int) (x.nanos:Int) of lt);exact⟨hbx.below hb2 hbx.lt,(HB1.out.alloc HB1.out.size _).trans (hb2.mono (by have:=HB1.out.size;simp;omega)),by have:=hb2.size;simp at this;omega⟩)
      clear hb2;obtain⟨g4,hg4⟩:=ex w1.heap.size
      rw[hg4]at HB2 ⊢;clear hg4;obtain⟨q0,q1,q2,q3,q4,q5,q6,q7,q8,q9,q10,q11⟩:=zaf HB2.out.1;go_wp2_with fail;refine(HSQ.out _).mono ?_;rintro e w3 ⟨rfl,hb3⟩;have HB3:Hid (Blk w3 g4 111 (T12 true true true (x.y:Int) (x.m:Int) (x.d:Int) (x.h:Int) (x.mi:Int) (x.c:Int) (x.nanos:Int) of lt)/\Below w.heap.size w w3):=hid ⟨HB2.out.1.below hb3 HB2.out.1.lt,HB2.out.2.1.trans (hb3.mono HB2.out.2.1.size)⟩;clear hb3 q0 q1 q2 q3 q4 q5 q6 q7 q8 q9 q10 q11;have q9:w3.cell? ⟨g4,9,none⟩=some (.int .i64 (x.nanos:Int)):=HB3.out.1.cell 9;go_wp2_with fail;refine(HOF2.out _).mono ?_;intro e w4 hof4;obtain⟨a,b,c,p,q,u,rfl,hb4,hshow⟩:=HOS.out _ _ _ hof4;have HB4:Hid (Below w.heap.size w w4):=hid (HB3.out.2.trans (hb4.mono HB3.out.2.size));have HSW:=hid hshow;clear hof4 hb4 hshow q9;go_wp2_with fail;refine(HSW.out _).mono ?_;rintro e w5 ⟨rfl,hb5⟩;have HB5:Hid (Below w.heap.size w w5):=hid (HB4.out.trans (hb5.mono HB4.out.size));clear hb5;go_wp2;go_ret2;rw[HF.out];exact⟨rfl,HB5.out⟩
theorem zr5 {x:Gr.Mo} (h:MoOk x) (_hz:x.z=0) (of:Int) (lt:Bool) (W:World):
 Calls prog 105 #[.agg #[.bool x.date,.bool x.time,.bool false,.int .i64 (x.y:Int),.int .i64 (x.m:Int),.int .i64 (x.d:Int),.int .i64 (x.h:Int),.int .i64 (x.mi:Int),.int .i64 (x.c:Int),.int .i64 (x.nanos:Int),.int .i64 of,.bool lt]] W fun e W'=>e=.returned (.string ⟨(locS x).toArray⟩)/\Below W.heap.size W W':=by
 have a:=h.y;have b:=h.m;have c:=h.d;have d:=h.h;have e:=h.mi;have f:=h.c;have g:=h.nanos;rcases h.sh with⟨h1,h2⟩|⟨h1,h2,_⟩|⟨h1,h2,_⟩
 ·have:=zm9 x.y x.m x.d x.h x.mi x.c x.nanos of lt (by omega) (by omega) (by omega) (by omega) (by omega) (by omega) g W;unfold locS;rw[h1,h2];simpa using this
 ·have:=zm7 x.y x.m x.d x.h x.mi x.c x.nanos of lt (by omega) (by omega) (by omega) (by omega) (by omega) (by omega) g W;unfold locS;rw[h1,h2];simpa using this
 ·have:=zm8 x.y x.m x.d x.h x.mi x.c x.nanos of lt (by omega) (by omega) (by omega) (by omega) (by omega) (by omega) g W;unfold locS;rw[h1,h2];simpa using this
theorem zeu (s:Gr.Str) (hl:s.length<=1073741823) (w:World):
 Calls prog 82 #[.string ⟨s.toArray⟩] w (RIPost (locP s) w):=by
 have HRD:=hid (fun W=>zcm s hl W);obtain⟨r,hr⟩:=ex (locP s)
 have HR:=hid hr;rw[hr];clear hr;have HIN:Hid (locP s=match Gr.rd s with|none=>([],3)|some x=>if x.z≠0 then([],3)else if okR x=false then([],13)else(locS x,0)):=hid rfl;cases hrd:Gr.rd s with
 |none=>
  have HF:Hid (r=([],3)):=hid (by rw[<-HR.out,HIN.out,hrd]);have HRN:=hid hrd;clear hrd;go_enter func82,ntmps82;go_wp2_with fail;refine(HRD.out _).mono ?_;rintro e w1 ⟨⟨t0,t1,t2,t3,t4,t5,t6,t7,t8,t9,t10,t11⟩,ok,rfl,hb1,hm⟩;rw[HRN.out]at hm;simp only at hm;subst hm;have HB1:=hid hb1;clear hb1;simp only[RT.v];go_wp2;go_ret2;rw[HF.out];exact⟨rfl,HB1.out.alloc HB1.out.size _⟩
 |some x=>
  have hok:=znb hrd;have HRN:=hid hrd;have hrg:=znc hok;by_cases hz:x.z=0
  ·have hzb:decide (x.z≠0)=false:=by simp[hz]
   have HZB:=hid hzb;obtain⟨lt,hlt⟩:=ex (decide (23<x.zh) || decide (59<x.zm))
   obtain⟨of,hof⟩:=ex (offS x)
   obtain⟨dt,hdt⟩:=ex x.date
   obtain⟨tm,htm⟩:=ex x.time
   have HLT:=hid (And.intro hlt hof);have HDT:=hid (And.intro hdt htm);rw[hdt,hlt]at hrg;have HRG:Hid (∀W,Calls prog 104 #[.agg #[.bool dt,.bool tm,.bool false,.int .i64 (x.y:Int),.int .i64 (x.m:Int),.int .i64 (x.d:Int),.int .i64 (x.h:Int),.int .i64 (x.mi:Int),.int .i64 (x.c:Int),.int .i64 (x.nanos:Int),.int .i64 of,.bool lt]] W fun e w'=>e=.returned (.bool (okR x))/\Below W.heap.size W w'):=hid (fun W=>by
    have:=zdk dt tm false (x.y:Int) (x.m:Int) (x.d:Int) (x.h:Int) (x.mi:Int) (x.c:Int) (x.nanos:Int) of lt W;rwa[hrg]at this)
   have HSW:=hid (fun W=>zr5 hok hz of lt W);rw[hdt,htm]at HSW;have HIN2:Hid (r=if okR x=false then([],13)else(locS x,0)):=hid (by rw[<-HR.out,HIN.out,hrd];simp only;rw[if_neg (by simp[hz])]);obtain⟨M,hM⟩:=ex (locS x)
   rw[hM]at HIN2 HSW;obtain⟨ok2,hok2⟩:=ex (okR x)
   rw[hok2]at HIN2 HRG;clear hrd hok hrg hz hzb hdt hlt hof htm hM hok2 HIN;cases ok2 with
   |false=>
    have HF:Hid (r=([],13)):=hid (by rw[HIN2.out,if_pos rfl]);clear HIN2;go_enter func82,ntmps82;go_wp2_with fail;refine(HRD.out _).mono ?_;rintro e w1 ⟨t,ok,rfl,hb1,hm⟩;rw[HRN.out]at hm;simp only at hm;obtain⟨rfl,rfl⟩:=hm;have HB1:=hid hb1;clear hb1;simp only[RT.v,toRT,HZB.out,HDT.out.1,HDT.out.2,HLT.out.1,HLT.out.2];go_wp2_with fail;refine(HRG.out _).mono ?_;rintro e w2 ⟨rfl,hb2⟩;have HB2:Hid (Below w.heap.size w w2):=hid ((HB1.out.alloc HB1.out.size _).trans (hb2.mono (by have:=HB1.out.size;simp;omega)));clear hb2;go_wp2;go_ret2;rw[HF.out];exact⟨rfl,HB2.out⟩
   |true=>
    have HF:Hid (r=(M,0)):=hid (by rw[HIN2.out,if_neg (by decide)]);clear HIN2;go_enter func82,ntmps82;go_wp2_with fail;refine(HRD.out _).mono ?_;rintro e w1 ⟨t,ok,rfl,hb1,hm⟩;rw[HRN.out]at hm;simp only at hm;obtain⟨rfl,rfl⟩:=hm;have HB1:=hid hb1;clear hb1;simp only[RT.v,toRT,HZB.out,HDT.out.1,HDT.out.2,HLT.out.1,HLT.out.2];go_wp2_with fail;refine(HRG.out _).mono ?_;rintro e w2 ⟨rfl,hb2⟩;have HB2:Hid (Blk w2 w1.heap.size 111 (T12 dt tm false (x.y:Int) (x.m:Int) (x.d:Int) (x.h:Int) (x.mi:Int) (x.c:Int) (x.nanos:Int) of lt)/\Below w.heap.size w w2):=hid (by
     have hbx:=Blk.new w1 111 (T12 dt tm false (x.y:Int) (x.m:Int) (x.d:Int) (x.h:Int) (x.mi:Int) (x.c:Int) (x.nanos:Int) of lt);exact⟨hbx.below hb2 hbx.lt,(HB1.out.alloc HB1.out.size _).trans (hb2.mono (by have:=HB1.out.size;simp;omega))⟩)
    clear hb2;obtain⟨g4,hg4⟩:=ex w1.heap.size
    rw[hg4]at HB2 ⊢;clear hg4;obtain⟨q0,q1,q2,q3,q4,q5,q6,q7,q8,q9,q10,q11⟩:=zaf HB2.out.1;go_wp2_with fail;refine(HSW.out _).mono ?_;rintro e w3 ⟨rfl,hb3⟩;have HB3:Hid (Below w.heap.size w w3):=hid (HB2.out.2.trans (hb3.mono HB2.out.2.size));clear hb3 q0 q1 q2 q3 q4 q5 q6 q7 q8 q9 q10 q11;go_wp2;go_ret2;rw[HF.out];exact⟨rfl,HB3.out⟩
  ·have HF:Hid (r=([],3)):=hid (by rw[<-HR.out,HIN.out,hrd];simp only;rw[if_pos hz]);have hzb:decide (x.z≠0)=true:=by simp[hz]
   have HZB:=hid hzb;clear hrd hok hrg hz hzb HIN;go_enter func82,ntmps82;go_wp2_with fail;refine(HRD.out _).mono ?_;rintro e w1 ⟨t,ok,rfl,hb1,hm⟩;rw[HRN.out]at hm;simp only at hm;obtain⟨rfl,rfl⟩:=hm;have HB1:=hid hb1;clear hb1;simp only[RT.v,toRT,HZB.out];go_wp2;go_ret2;rw[HF.out];exact⟨rfl,HB1.out.alloc HB1.out.size _⟩
theorem zki (s:Gr.Str) (hl:s.length<=1073741823) (w:World):
 Calls prog 48 #[.string ⟨s.toArray⟩] w fun e w'=>e=.returned (.bool (locB s))/\Below w.heap.size w w':=by
 have HC:=hid (zeu s hl w);have HB:Hid (locB s=decide ((locP s).2=0/\(locP s).1=s)):=hid rfl;obtain⟨r,hr⟩:=ex (locB s)
 rw[hr]at HB ⊢;obtain⟨⟨l,k⟩,hp⟩:∃p,locP s=p:=⟨_,rfl⟩
 rw[hp]at HC HB;obtain⟨ki,hki⟩:∃ki:Int,(k:Int)=ki:=⟨_,rfl⟩
 unfold RIPost at HC;simp only[hki]at HC HB;have HK:=hid hki;clear hr hp hki;by_cases h0:ki=0
 ·subst h0;have h0b:((0:Int)==0)=true:=rfl;by_cases hs:l=s
  ·have hsb:(l==s)=true:=by rw[beq_iff_eq];exact hs
   have HF:Hid (r=true):=hid (by rw[HB.out];simp[hs];have:=HK.out;omega);clear hs;go_enter func48,ntmps48;go_wp2_with fail;refine HC.out.mono ?_;rintro e w1 ⟨rfl,hb1⟩;have HB1:=hid hb1;clear hb1;go_wp2;go_ret;rw[HF.out];exact⟨rfl,HB1.out⟩
  ·have hsb:(l==s)=false:=by rw[beq_eq_false_iff_ne];exact hs
   have HF:Hid (r=false):=hid (by rw[HB.out];simp[hs]);clear hs;go_enter func48,ntmps48;go_wp2_with fail;refine HC.out.mono ?_;rintro e w1 ⟨rfl,hb1⟩;have HB1:=hid hb1;clear hb1;go_wp2;go_ret;rw[HF.out];exact⟨rfl,HB1.out⟩
 ·have h0b:(ki==0)=false:=by simpa using h0
  have HF:Hid (r=false):=hid (by rw[HB.out];simp;intro e;exact absurd (by have:=HK.out;omega) h0);go_enter func48,ntmps48;go_wp2_with fail;refine HC.out.mono ?_;rintro e w1 ⟨rfl,hb1⟩;have HB1:=hid hb1;clear hb1;go_wp2;go_ret;rw[HF.out];exact⟨rfl,HB1.out⟩
end Go.Proofs.YtoigpackhninoaaGreatDoor

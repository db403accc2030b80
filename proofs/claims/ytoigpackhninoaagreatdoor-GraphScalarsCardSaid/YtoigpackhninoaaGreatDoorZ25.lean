/- Walks: OfSeconds. Walks: the reference's ReadLocal, Canon, Instant, Local. Walks: the reference's Canon, Instant. -/
import Derived.Test.YtoigpackhninoaaGreatDoorGrInsP6
import Derived.Test.YtoigpackhninoaaGreatDoorGrInsR14
namespace Go.Proofs.YtoigpackhninoaaGreatDoor
set_option maxRecDepth 100000
set_option maxHeartbeats 16000000
open Go.RowKit
noncomputable def osP (n:Int) (nanos:Nat):Gr.Str×Nat:=if n< -62167219200\/253402300800<=n then([],13)else(Gr.momS (n /86400) (n%86400).toNat nanos,0)
def RIPostP (r:Gr.Str×Nat) (w:World) (e:Ending) (w':World):Prop:=e=.returned (.tuple #[.string ⟨r.1.toArray⟩,.int .i64 (r.2:Nat)])/\Below w.heap.size w w'
theorem date_nat {n:Int} {y m d:Int} (hv:Cal.vld y m d=true) (hn:Cal.num y m d=n):∃a b c:Nat,y=a/\m=b/\d=c/\a<=9999/\b<=99/\c<=99/\Gr.dateOf n=(a,b,c):=by
 have h:=Cal.vld_of hv;have hd:=Cal.dim_bd y m;refine⟨y.toNat,m.toNat,d.toNat,by omega,by omega,by omega,by omega,by omega,by omega,?_⟩;apply Gr.dateOf_eq
 ·rw[show((y.toNat:Nat):Int)=y from by omega,show((m.toNat:Nat):Int)=m from by omega,show((d.toNat:Nat):Int)=d from by omega];exact hv
 ·rw[show((y.toNat:Nat):Int)=y from by omega,show((m.toNat:Nat):Int)=m from by omega,show((d.toNat:Nat):Int)=d from by omega,hn]
theorem tm_bd (n:Int):-86400<n.tmod 86400/\n.tmod 86400<86400/\n=86400*n.tdiv 86400+n.tmod 86400:=by
 have h1:=Int.mul_tdiv_add_tmod n 86400;have h2:=Int.tmod_lt_of_pos n (b:=86400) (by omega);have h3:=Int.tmod_lt_of_pos (-n) (b:=86400) (by omega);rw[Int.neg_tmod]at h3;omega
theorem ofseconds_any (n:Int) (nanos:Nat) (j:Int) (hj:j=(nanos:Int)) (hna:nanos<=999999999) (h0:-900000000000<=n) (h1:n<=900000000000) (w:World) (hT:UT w):
 Calls Tryz.prog 94 #[.int .i64 n,.int .i64 j] w (RIPostP (osP n nanos) w):=by
 subst hj;have HT:=Lib.hid hT;clear hT;have hna0:¬(nanos:Int)<0:=by omega
 have hna1:¬(999999999:Int)<(nanos:Int):=by omega
 by_cases hlo:n< -62167219200
 ·have HF:Hid (osP n nanos=([],13)):=Lib.hid (by unfold osP;rw[if_pos (.inl hlo)]);rw[HF.out];go_enter Tryz.func94,Tryz.ntmps94;go_wp2_with fail;go_ret2;exact⟨rfl,Below.refl _ _⟩
 ·by_cases hhi:253402300800<=n
  ·have HF:Hid (osP n nanos=([],13)):=Lib.hid (by unfold osP;rw[if_pos (.inr hhi)]);rw[HF.out];go_enter Tryz.func94,Tryz.ntmps94;go_wp2_with fail;go_ret2;exact⟨rfl,Below.refl _ _⟩
  ·obtain⟨D,hD⟩:∃D,n /86400=D:=⟨_,rfl⟩
   obtain⟨R,hR⟩:∃R:Nat,(n%86400).toNat=R:=⟨_,rfl⟩
   have hD0:-719528<=D:=by omega
   have hD1:D<=2932896:=by omega
   have hR1:R<=86399:=by omega
   have HDR:Hid (n /86400=D/\n%86400=(R:Int)):=Lib.hid ⟨hD,by omega⟩;obtain⟨M,hM⟩:∃M,Gr.momS D R nanos=M:=⟨_,rfl⟩
   have HM:=Lib.hid hM;have HF:Hid (osP n nanos=(M,0)):=Lib.hid (by unfold osP;rw[if_neg (by omega),hD,hR,hM]);rw[HF.out];have HDT:=Lib.hid (fun W=>date_yes D hD0 hD1 W);clear hD hR hM;go_enter Tryz.func94,Tryz.ntmps94;go_upto_region 5 with fail;go_cut [6,7] (fun s6 s7 wx=>(∃q t:Int,s6=.int .i64 q/\s7=.int .i64 t/\Hid (n=86400*q+t/\-86400<t/\t<86400))/\wx=w)
   case first=>
    by_cases hn0:0<=n
    ·go_wp2_with fail;go_meet;exact⟨⟨_,_,rfl,rfl,Lib.hid ⟨by omega,by omega,by omega⟩⟩,rfl⟩
    ·have hb:=Lib.hid (tm_bd n);go_wp2_with fail;go_meet;exact⟨⟨_,_,rfl,rfl,Lib.hid ⟨hb.out.2.2,hb.out.1,hb.out.2.1⟩⟩,rfl⟩
   case rest=>
   obtain⟨⟨q,t,rfl,rfl,HQT⟩,rfl⟩:=hcut;refine(‹∀(a:Act) (w_1:World),Code.wp Tryz.prog _ _ a w_1->_›) _ _ ?_;have t0:-86400<t:=HQT.out.2.1;have t1:t<86400:=HQT.out.2.2;have q0:-11000000<=q:=by have:=HQT.out;omega
   have q1:q<=11000000:=by have:=HQT.out;omega
   go_upto_if 30 with fail;go_cut [6,7] (fun s6 s7 wx=>s6=.int .i64 D/\s7=.int .i64 (R:Int)/\wx=wc)
   case first=>
    by_cases ht:t<0
    ·have HE:Hid (q-1=D/\t+86400=(R:Int)):=Lib.hid (by have h1:=HQT.out;have h2:=HDR.out;omega);go_wp2_with fail;go_meet;rw[HE.out.1,HE.out.2];exact⟨rfl,rfl,rfl⟩
    ·have HE:Hid (q=D/\t=(R:Int)):=Lib.hid (by have h1:=HQT.out;have h2:=HDR.out;omega);go_wp2_with fail;go_meet;rw[HE.out.1,HE.out.2];exact⟨rfl,rfl,rfl⟩
   case rest=>
   obtain⟨rfl,rfl,rfl⟩:=hcut;refine(‹∀(a:Act) (w_1:World),Code.wp Tryz.prog _ _ a w_1->_›) _ _ ?_;clear t0 t1 q0 q1;go_wp2_with fail;refine(HDT.out _).mono ?_;rintro e w1 ⟨y,m,d,rfl,hv,hnum,hb1⟩;obtain⟨a,b,c,rfl,rfl,rfl,ha,hb,hc,hdo⟩:=date_nat hv hnum;obtain⟨p1,hp1⟩:∃p1:Nat,R /3600=p1:=⟨_,rfl⟩
   obtain⟨p2,hp2⟩:∃p2:Nat,R /60%60=p2:=⟨_,rfl⟩
   obtain⟨p3,hp3⟩:∃p3:Nat,R%60=p3:=⟨_,rfl⟩
   have i1:(R:Int) /3600=(p1:Int):=by omega
   have i2:(R:Int) /60%60=(p2:Int):=by omega
   have i3:(R:Int)%60=(p3:Int):=by omega
   have HTX:Hid (∀W,UT W->Calls Tryz.prog 128 #[.agg #[.int .i64 3,.int .i64 (a:Int),.int .i64 (b:Int),.int .i64 (c:Int),.int .i64 (p1:Int),.int .i64 (p2:Int),.int .i64 (p3:Int),.int .i64 0,.int .i64 0,.int .i64 (nanos:Int),.int .u8 0]] W fun e w'=>e=.returned (.string ⟨(Gr.dateS a b c++[84]++Gr.clkS p1 p2 p3 nanos).toArray⟩)/\Below W.heap.size W w'):=Lib.hid (fun W hW=>ptext_3 a b c p1 p2 p3 nanos 0 0 0 ha hb hc (by omega) (by omega) (by omega) hna W hW);have HMM:Hid (M=(Gr.dateS a b c++[84]++Gr.clkS p1 p2 p3 nanos)++[90]):=Lib.hid (by rw[<-HM.out];unfold Gr.momS;rw[hdo,hp1,hp2,hp3];simp);obtain⟨S,hS⟩:∃S,Gr.dateS a b c++[84]++Gr.clkS p1 p2 p3 nanos=S:=⟨_,rfl⟩
   have hSl:S.length<=1000:=by
    rw[<-hS];have h2:(Gr.nanoS nanos).length<=10:=by
     unfold Gr.nanoS;split
     ·simp
     ·unfold Gr.trimZ;rw[List.length_cons,List.length_reverse];have:=(List.dropWhile_sublist (fun c:UInt8=>c==48) (l:=(Gr.pd 9 nanos).reverse)).length_le;rw[List.length_reverse,Gr.pd_len]at this;omega
    simp[Gr.dateS,Gr.clkS,Gr.pd_len];omega
   rw[hS]at HTX HMM;have HB1:Hid (Below wc.heap.size wc w1/\UT w1):=Lib.hid ⟨hb1,UT.stays _ _ HT.out hb1⟩;have hadd:=fun W=>add_run S [90] (by simp;omega) W
   clear hv hnum hdo hp1 hp2 hp3 hS hb1;go_wp2_with fail;refine(HTX.out _ (UT.stays _ _ HB1.out.2 ((Below.refl _ _).alloc (Nat.le_refl _) _))).mono ?_;rintro e w2 ⟨rfl,hb2⟩;have HB2:Hid (Below wc.heap.size wc w2):=Lib.hid ((HB1.out.1.alloc HB1.out.1.size _).trans (hb2.mono (by have:=HB1.out.1.size;simp;omega)));clear hb2;go_wp2_with fail;go_ret2;unfold RIPostP;rw[HMM.out];exact⟨rfl,HB2.out⟩
end Go.Proofs.YtoigpackhninoaaGreatDoor
namespace Go.Proofs.YtoigpackhninoaaGreatDoor
set_option maxRecDepth 100000
set_option maxHeartbeats 16000000
open Go.RowKit
theorem showloc {x:Gr.Mo} (h:MoOk x) (_hz:x.z=0) (of:Int) (lt:Bool) (W:World):
 Calls Tryz.prog 105 #[.agg #[.bool x.date,.bool x.time,.bool false,.int .i64 (x.y:Int),.int .i64 (x.m:Int),.int .i64 (x.d:Int),.int .i64 (x.h:Int),.int .i64 (x.mi:Int),.int .i64 (x.c:Int),.int .i64 (x.nanos:Int),.int .i64 of,.bool lt]] W fun e W'=>e=.returned (.string ⟨(Gr.locS x).toArray⟩)/\Below W.heap.size W W':=by
 have a:=h.y;have b:=h.m;have c:=h.d;have d:=h.h;have e:=h.mi;have f:=h.c;have g:=h.nanos;rcases h.sh with⟨h1,h2⟩|⟨h1,h2,_⟩|⟨h1,h2,_⟩
 ·have:=rshow_ttf x.y x.m x.d x.h x.mi x.c x.nanos of lt (by omega) (by omega) (by omega) (by omega) (by omega) (by omega) g W;unfold Gr.locS;rw[h1,h2];simpa using this
 ·have:=rshow_tff x.y x.m x.d x.h x.mi x.c x.nanos of lt (by omega) (by omega) (by omega) (by omega) (by omega) (by omega) g W;unfold Gr.locS;rw[h1,h2];simpa using this
 ·have:=rshow_ftf x.y x.m x.d x.h x.mi x.c x.nanos of lt (by omega) (by omega) (by omega) (by omega) (by omega) (by omega) g W;unfold Gr.locS;rw[h1,h2];simpa using this
theorem rreadlocal_any (s:Gr.Str) (hl:s.length<=1073741823) (w:World):
 Calls Tryz.prog 82 #[.string ⟨s.toArray⟩] w (RIPost (Gr.locP s) w):=by
 have HRD:=Lib.hid (fun W=>rread07_any s hl W);obtain⟨r,hr⟩:∃r,Gr.locP s=r:=⟨_,rfl⟩
 have HR:=Lib.hid hr;rw[hr];clear hr;have HIN:Hid (Gr.locP s=match Gr.rd s with|none=>([],3)|some x=>if x.z≠0 then([],3)else if Gr.okR x=false then([],13)else(Gr.locS x,0)):=Lib.hid rfl;cases hrd:Gr.rd s with
 |none=>
  have HF:Hid (r=([],3)):=Lib.hid (by rw[<-HR.out,HIN.out,hrd]);have HRN:=Lib.hid hrd;clear hrd;go_enter Tryz.func82,Tryz.ntmps82;go_wp2_with fail;refine(HRD.out _).mono ?_;rintro e w1 ⟨⟨t0,t1,t2,t3,t4,t5,t6,t7,t8,t9,t10,t11⟩,ok,rfl,hb1,hm⟩;rw[HRN.out]at hm;simp only at hm;subst hm;have HB1:=Lib.hid hb1;clear hb1;simp only[RT.v];go_wp2_with fail;go_ret2;rw[HF.out];exact⟨rfl,HB1.out.alloc HB1.out.size _⟩
 |some x=>
  have hok:=rd_ok hrd;have HRN:=Lib.hid hrd;have hrg:=rngB_ok hok;by_cases hz:x.z=0
  ·have hzb:decide (x.z≠0)=false:=by simp[hz]
   have HZB:=Lib.hid hzb;obtain⟨lt,hlt⟩:∃lt,(decide (23<x.zh) || decide (59<x.zm))=lt:=⟨_,rfl⟩
   obtain⟨of,hof⟩:∃of,Gr.offS x=of:=⟨_,rfl⟩
   obtain⟨dt,hdt⟩:∃dt,x.date=dt:=⟨_,rfl⟩
   obtain⟨tm,htm⟩:∃tm,x.time=tm:=⟨_,rfl⟩
   have HLT:=Lib.hid (And.intro hlt hof);have HDT:=Lib.hid (And.intro hdt htm);rw[hdt,hlt]at hrg;have HRG:Hid (∀W,Calls Tryz.prog 104 #[.agg #[.bool dt,.bool tm,.bool false,.int .i64 (x.y:Int),.int .i64 (x.m:Int),.int .i64 (x.d:Int),.int .i64 (x.h:Int),.int .i64 (x.mi:Int),.int .i64 (x.c:Int),.int .i64 (x.nanos:Int),.int .i64 of,.bool lt]] W fun e w'=>e=.returned (.bool (Gr.okR x))/\Below W.heap.size W w'):=Lib.hid (fun W=>by
    have:=rinrange_any dt tm false (x.y:Int) (x.m:Int) (x.d:Int) (x.h:Int) (x.mi:Int) (x.c:Int) (x.nanos:Int) of lt W;rwa[hrg]at this)
   have HSW:=Lib.hid (fun W=>showloc hok hz of lt W);rw[hdt,htm]at HSW;have HIN2:Hid (r=if Gr.okR x=false then([],13)else(Gr.locS x,0)):=Lib.hid (by rw[<-HR.out,HIN.out,hrd];simp only;rw[if_neg (by simp[hz])]);obtain⟨M,hM⟩:∃M,Gr.locS x=M:=⟨_,rfl⟩
   rw[hM]at HIN2 HSW;obtain⟨ok2,hok2⟩:∃b,Gr.okR x=b:=⟨_,rfl⟩
   rw[hok2]at HIN2 HRG;clear hrd hok hrg hz hzb hdt hlt hof htm hM hok2 HIN;cases ok2 with
   |false=>
    have HF:Hid (r=([],13)):=Lib.hid (by rw[HIN2.out,if_pos rfl]);clear HIN2;go_enter Tryz.func82,Tryz.ntmps82;go_wp2_with fail;refine(HRD.out _).mono ?_;rintro e w1 ⟨t,ok,rfl,hb1,hm⟩;rw[HRN.out]at hm;simp only at hm;obtain⟨rfl,rfl⟩:=hm;have HB1:=Lib.hid hb1;clear hb1;simp only[RT.v,toRT,HZB.out,HDT.out.1,HDT.out.2,HLT.out.1,HLT.out.2];go_wp2_with fail;refine(HRG.out _).mono ?_;rintro e w2 ⟨rfl,hb2⟩;have HB2:Hid (Below w.heap.size w w2):=Lib.hid ((HB1.out.alloc HB1.out.size _).trans (hb2.mono (by have:=HB1.out.size;simp;omega)));clear hb2;go_wp2_with fail;go_ret2;rw[HF.out];exact⟨rfl,HB2.out⟩
   |true=>
    have HF:Hid (r=(M,0)):=Lib.hid (by rw[HIN2.out,if_neg (by decide)]);clear HIN2;go_enter Tryz.func82,Tryz.ntmps82;go_wp2_with fail;refine(HRD.out _).mono ?_;rintro e w1 ⟨t,ok,rfl,hb1,hm⟩;rw[HRN.out]at hm;simp only at hm;obtain⟨rfl,rfl⟩:=hm;have HB1:=Lib.hid hb1;clear hb1;simp only[RT.v,toRT,HZB.out,HDT.out.1,HDT.out.2,HLT.out.1,HLT.out.2];go_wp2_with fail;refine(HRG.out _).mono ?_;rintro e w2 ⟨rfl,hb2⟩;have HB2:Hid (Blk w2 w1.heap.size 111 (T12 dt tm false (x.y:Int) (x.m:Int) (x.d:Int) (x.h:Int) (x.mi:Int) (x.c:Int) (x.nanos:Int) of lt)/\Below w.heap.size w w2):=Lib.hid (by
     have hbx:=Blk.new w1 111 (T12 dt tm false (x.y:Int) (x.m:Int) (x.d:Int) (x.h:Int) (x.mi:Int) (x.c:Int) (x.nanos:Int) of lt);exact⟨hbx.below hb2 hbx.lt,(HB1.out.alloc HB1.out.size _).trans (hb2.mono (by have:=HB1.out.size;simp;omega))⟩)
    clear hb2;obtain⟨g4,hg4⟩:∃g4,w1.heap.size=g4:=⟨_,rfl⟩
    rw[hg4]at HB2 ⊢;clear hg4;obtain⟨q0,q1,q2,q3,q4,q5,q6,q7,q8,q9,q10,q11⟩:=cells12 HB2.out.1;go_wp2_with fail;refine(HSW.out _).mono ?_;rintro e w3 ⟨rfl,hb3⟩;have HB3:Hid (Below w.heap.size w w3):=Lib.hid (HB2.out.2.trans (hb3.mono HB2.out.2.size));clear hb3 q0 q1 q2 q3 q4 q5 q6 q7 q8 q9 q10 q11;go_wp2_with fail;go_ret2;rw[HF.out];exact⟨rfl,HB3.out⟩
  ·have HF:Hid (r=([],3)):=Lib.hid (by rw[<-HR.out,HIN.out,hrd];simp only;rw[if_pos hz]);have hzb:decide (x.z≠0)=true:=by simp[hz]
   have HZB:=Lib.hid hzb;clear hrd hok hrg hz hzb HIN;go_enter Tryz.func82,Tryz.ntmps82;go_wp2_with fail;refine(HRD.out _).mono ?_;rintro e w1 ⟨t,ok,rfl,hb1,hm⟩;rw[HRN.out]at hm;simp only at hm;obtain⟨rfl,rfl⟩:=hm;have HB1:=Lib.hid hb1;clear hb1;simp only[RT.v,toRT,HZB.out];go_wp2_with fail;go_ret2;rw[HF.out];exact⟨rfl,HB1.out.alloc HB1.out.size _⟩
theorem rlocal_any (s:Gr.Str) (hl:s.length<=1073741823) (w:World):
 Calls Tryz.prog 48 #[.string ⟨s.toArray⟩] w fun e w'=>e=.returned (.bool (Gr.locB s))/\Below w.heap.size w w':=by
 have HC:=Lib.hid (rreadlocal_any s hl w);have HB:Hid (Gr.locB s=decide ((Gr.locP s).2=0/\(Gr.locP s).1=s)):=Lib.hid rfl;obtain⟨r,hr⟩:∃r,Gr.locB s=r:=⟨_,rfl⟩
 rw[hr]at HB ⊢;obtain⟨⟨l,k⟩,hp⟩:∃p,Gr.locP s=p:=⟨_,rfl⟩
 rw[hp]at HC HB;obtain⟨ki,hki⟩:∃ki:Int,(k:Int)=ki:=⟨_,rfl⟩
 unfold RIPost at HC;simp only[hki]at HC HB;have HK:=Lib.hid hki;clear hr hp hki;by_cases h0:ki=0
 ·subst h0;have h0b:((0:Int)==0)=true:=rfl;by_cases hs:l=s
  ·have hsb:(l==s)=true:=by rw[beq_iff_eq];exact hs
   have HF:Hid (r=true):=Lib.hid (by rw[HB.out];simp[hs];have:=HK.out;omega);clear hs;go_enter Tryz.func48,Tryz.ntmps48;go_wp2_with fail;refine HC.out.mono ?_;rintro e w1 ⟨rfl,hb1⟩;have HB1:=Lib.hid hb1;clear hb1;go_wp2_with fail;go_ret;rw[HF.out];exact⟨rfl,HB1.out⟩
  ·have hsb:(l==s)=false:=by rw[beq_eq_false_iff_ne];exact hs
   have HF:Hid (r=false):=Lib.hid (by rw[HB.out];simp[hs]);clear hs;go_enter Tryz.func48,Tryz.ntmps48;go_wp2_with fail;refine HC.out.mono ?_;rintro e w1 ⟨rfl,hb1⟩;have HB1:=Lib.hid hb1;clear hb1;go_wp2_with fail;go_ret;rw[HF.out];exact⟨rfl,HB1.out⟩
 ·have h0b:(ki==0)=false:=by simpa using h0
  have HF:Hid (r=false):=Lib.hid (by rw[HB.out];simp;intro e;exact absurd (by have:=HK.out;omega) h0);go_enter Tryz.func48,Tryz.ntmps48;go_wp2_with fail;refine HC.out.mono ?_;rintro e w1 ⟨rfl,hb1⟩;have HB1:=Lib.hid hb1;clear hb1;go_wp2_with fail;go_ret;rw[HF.out];exact⟨rfl,HB1.out⟩
end Go.Proofs.YtoigpackhninoaaGreatDoor
namespace Go.Proofs.YtoigpackhninoaaGreatDoor
set_option maxRecDepth 100000
set_option maxHeartbeats 16000000
open Go.RowKit
def CanonPost (b:Bool) (w:World) (e:Ending) (w':World):Prop:=∃t:RT,e=.returned (.tuple #[t.v,.bool b])/\Below w.heap.size w w'
theorem rcanon_any (s:Gr.Str) (hl:s.length<=1073741823) (w:World):
 Calls Tryz.prog 81 #[.string ⟨s.toArray⟩] w (CanonPost (Gr.insB s) w):=by
 have HC:=Lib.hid (fun W=>rreadinstant_any s hl W);have HRD:=Lib.hid (fun W=>rread07_any s hl W);have HB:Hid (Gr.insB s=decide ((Gr.insP s).2=0/\(Gr.insP s).1=s)):=Lib.hid rfl;obtain⟨r,hr⟩:∃r,Gr.insB s=r:=⟨_,rfl⟩
 rw[hr]at HB ⊢;obtain⟨⟨l,k⟩,hp⟩:∃p,Gr.insP s=p:=⟨_,rfl⟩
 rw[hp]at HC HB;obtain⟨ki,hki⟩:∃ki:Int,(k:Int)=ki:=⟨_,rfl⟩
 unfold RIPost at HC;simp only[hki]at HC HB;have HK:=Lib.hid hki;clear hr hp hki;have hc:ki≠0\/(ki=0/\l≠s)\/(ki=0/\l=s):=by
  by_cases h0:ki=0
  ·by_cases hs:l=s
   ·exact .inr (.inr ⟨h0,hs⟩)
   ·exact .inr (.inl ⟨h0,hs⟩)
  ·exact .inl h0
 rcases hc with h0|⟨rfl,hs⟩|⟨rfl,hs⟩
 ·have h0b:(ki==0)=false:=by simpa using h0
  have h0c:(ki != 0)=true:=by rw[bne,h0b];rfl
  have HF:Hid (r=false):=Lib.hid (by rw[HB.out];simp;intro e;exact absurd (by have:=HK.out;omega) h0);go_enter Tryz.func81,Tryz.ntmps81;go_upto_region 1 with fail;obtain⟨gb,hgb⟩:∃gb,w.heap.size=gb:=⟨_,rfl⟩
  obtain⟨w0,hw0⟩:∃w0,w0=w.alloc (.cells #[.bool false,.bool false,.bool false,.int .i64 0,.int .i64 0,.int .i64 0,.int .i64 0,.int .i64 0,.int .i64 0,.int .i64 0,.int .i64 0,.bool false] 111):=⟨_,rfl⟩
  have HB0:Hid (Blk w0 gb 111 (T12 false false false 0 0 0 0 0 0 0 0 false)/\Below gb w w0):=Lib.hid (by rw[hw0,<-hgb];exact⟨Blk.new _ _ _,(Below.refl _ _).alloc (Nat.le_refl _) _⟩);have HGB:=Lib.hid hgb;(try rw[<-hw0]);(try rw[hgb]);clear hw0 hgb;go_wp2_with fail;refine(HC.out _).mono ?_;rintro e w1 ⟨rfl,hb1⟩;have HB1:Hid (Blk w1 gb 111 (T12 false false false 0 0 0 0 0 0 0 0 false)/\Below gb w w1):=Lib.hid ⟨HB0.out.1.below hb1 HB0.out.1.lt,HB0.out.2.trans (hb1.mono (Nat.le_of_lt HB0.out.1.lt))⟩;clear hb1;have xb:∀j,w1.cell? ⟨gb,j,none⟩=(#[.bool false,.bool false,.bool false,.int .i64 0,.int .i64 0,.int .i64 0,.int .i64 0,.int .i64 0,.int .i64 0,.int .i64 0,.int .i64 0,.bool false]:Array Value)[j]? :=fun j=>HB1.out.1.cell j
  have xf:∀j,w1.frozen? ⟨gb,j,none⟩=false:=HB1.out.1.frozen;go_wp2_with fail;have HSB:Blk ((((((((((((w1.setCell ⟨gb,0,none⟩ (.bool false)).setCell ⟨gb,1,none⟩ (.bool false)).setCell ⟨gb,2,none⟩ (.bool false)).setCell ⟨gb,3,none⟩ (.int .i64 0)).setCell ⟨gb,4,none⟩ (.int .i64 0)).setCell ⟨gb,5,none⟩ (.int .i64 0)).setCell ⟨gb,6,none⟩ (.int .i64 0)).setCell ⟨gb,7,none⟩ (.int .i64 0)).setCell ⟨gb,8,none⟩ (.int .i64 0)).setCell ⟨gb,9,none⟩ (.int .i64 0)).setCell ⟨gb,10,none⟩ (.int .i64 0)).setCell ⟨gb,11,none⟩ (.bool false)) gb 111 (T12 false false false 0 0 0 0 0 0 0 0 false):=stored12 HB1.out.1;have HSH:Below gb w ((((((((((((w1.setCell ⟨gb,0,none⟩ (.bool false)).setCell ⟨gb,1,none⟩ (.bool false)).setCell ⟨gb,2,none⟩ (.bool false)).setCell ⟨gb,3,none⟩ (.int .i64 0)).setCell ⟨gb,4,none⟩ (.int .i64 0)).setCell ⟨gb,5,none⟩ (.int .i64 0)).setCell ⟨gb,6,none⟩ (.int .i64 0)).setCell ⟨gb,7,none⟩ (.int .i64 0)).setCell ⟨gb,8,none⟩ (.int .i64 0)).setCell ⟨gb,9,none⟩ (.int .i64 0)).setCell ⟨gb,10,none⟩ (.int .i64 0)).setCell ⟨gb,11,none⟩ (.bool false)):=below12 HB1.out.2 (Nat.le_refl gb) _ _ _ _ _ _ _ _ _ _ _ _;obtain⟨e0,e1,e2,e3,e4,e5,e6,e7,e8,e9,e10,e11⟩:=cells12 HSB;refine bodyPost_ret (v:=.tuple #[.agg #[.bool false,.bool false,.bool false,.int .i64 0,.int .i64 0,.int .i64 0,.int .i64 0,.int .i64 0,.int .i64 0,.int .i64 0,.int .i64 0,.bool false],.bool false]) (by rw[results_cell_tmp rfl];go_simp) rfl ?_;unfold CanonPost;rw[HGB.out,HF.out];exact⟨RT.z,rfl,HSH⟩
 ·have hsb:(l==s)=false:=by rw[beq_eq_false_iff_ne];exact hs
  have hsc:(l != s)=true:=by rw[bne,hsb];rfl
  have HF:Hid (r=false):=Lib.hid (by rw[HB.out];simp[hs]);clear hs;go_enter Tryz.func81,Tryz.ntmps81;go_upto_region 1 with fail;obtain⟨gb,hgb⟩:∃gb,w.heap.size=gb:=⟨_,rfl⟩
  obtain⟨w0,hw0⟩:∃w0,w0=w.alloc (.cells #[.bool false,.bool false,.bool false,.int .i64 0,.int .i64 0,.int .i64 0,.int .i64 0,.int .i64 0,.int .i64 0,.int .i64 0,.int .i64 0,.bool false] 111):=⟨_,rfl⟩
  have HB0:Hid (Blk w0 gb 111 (T12 false false false 0 0 0 0 0 0 0 0 false)/\Below gb w w0):=Lib.hid (by rw[hw0,<-hgb];exact⟨Blk.new _ _ _,(Below.refl _ _).alloc (Nat.le_refl _) _⟩);have HGB:=Lib.hid hgb;(try rw[<-hw0]);(try rw[hgb]);clear hw0 hgb;go_wp2_with fail;refine(HC.out _).mono ?_;rintro e w1 ⟨rfl,hb1⟩;have HB1:Hid (Blk w1 gb 111 (T12 false false false 0 0 0 0 0 0 0 0 false)/\Below gb w w1):=Lib.hid ⟨HB0.out.1.below hb1 HB0.out.1.lt,HB0.out.2.trans (hb1.mono (Nat.le_of_lt HB0.out.1.lt))⟩;clear hb1;have xb:∀j,w1.cell? ⟨gb,j,none⟩=(#[.bool false,.bool false,.bool false,.int .i64 0,.int .i64 0,.int .i64 0,.int .i64 0,.int .i64 0,.int .i64 0,.int .i64 0,.int .i64 0,.bool false]:Array Value)[j]? :=fun j=>HB1.out.1.cell j
  have xf:∀j,w1.frozen? ⟨gb,j,none⟩=false:=HB1.out.1.frozen;go_wp2_with fail;have HSB:Blk ((((((((((((w1.setCell ⟨gb,0,none⟩ (.bool false)).setCell ⟨gb,1,none⟩ (.bool false)).setCell ⟨gb,2,none⟩ (.bool false)).setCell ⟨gb,3,none⟩ (.int .i64 0)).setCell ⟨gb,4,none⟩ (.int .i64 0)).setCell ⟨gb,5,none⟩ (.int .i64 0)).setCell ⟨gb,6,none⟩ (.int .i64 0)).setCell ⟨gb,7,none⟩ (.int .i64 0)).setCell ⟨gb,8,none⟩ (.int .i64 0)).setCell ⟨gb,9,none⟩ (.int .i64 0)).setCell ⟨gb,10,none⟩ (.int .i64 0)).setCell ⟨gb,11,none⟩ (.bool false)) gb 111 (T12 false false false 0 0 0 0 0 0 0 0 false):=stored12 HB1.out.1;have HSH:Below gb w ((((((((((((w1.setCell ⟨gb,0,none⟩ (.bool false)).setCell ⟨gb,1,none⟩ (.bool false)).setCell ⟨gb,2,none⟩ (.bool false)).setCell ⟨gb,3,none⟩ (.int .i64 0)).setCell ⟨gb,4,none⟩ (.int .i64 0)).setCell ⟨gb,5,none⟩ (.int .i64 0)).setCell ⟨gb,6,none⟩ (.int .i64 0)).setCell ⟨gb,7,none⟩ (.int .i64 0)).setCell ⟨gb,8,none⟩ (.int .i64 0)).setCell ⟨gb,9,none⟩ (.int .i64 0)).setCell ⟨gb,10,none⟩ (.int .i64 0)).setCell ⟨gb,11,none⟩ (.bool false)):=below12 HB1.out.2 (Nat.le_refl gb) _ _ _ _ _ _ _ _ _ _ _ _;obtain⟨e0,e1,e2,e3,e4,e5,e6,e7,e8,e9,e10,e11⟩:=cells12 HSB;refine bodyPost_ret (v:=.tuple #[.agg #[.bool false,.bool false,.bool false,.int .i64 0,.int .i64 0,.int .i64 0,.int .i64 0,.int .i64 0,.int .i64 0,.int .i64 0,.int .i64 0,.bool false],.bool false]) (by rw[results_cell_tmp rfl];go_simp) rfl ?_;unfold CanonPost;rw[HGB.out,HF.out];exact⟨RT.z,rfl,HSH⟩
 ·have hsb:(l==s)=true:=by rw[beq_iff_eq];exact hs
  have hsc:(l != s)=false:=by rw[bne,hsb];rfl
  have HF:Hid (r=true):=Lib.hid (by rw[HB.out];simp[hs];have:=HK.out;omega);clear hs;go_enter Tryz.func81,Tryz.ntmps81;go_upto_region 1 with fail;obtain⟨gb,hgb⟩:∃gb,w.heap.size=gb:=⟨_,rfl⟩
  obtain⟨w0,hw0⟩:∃w0,w0=w.alloc (.cells #[.bool false,.bool false,.bool false,.int .i64 0,.int .i64 0,.int .i64 0,.int .i64 0,.int .i64 0,.int .i64 0,.int .i64 0,.int .i64 0,.bool false] 111):=⟨_,rfl⟩
  have HB0:Hid (Blk w0 gb 111 (T12 false false false 0 0 0 0 0 0 0 0 false)/\Below gb w w0):=Lib.hid (by rw[hw0,<-hgb];exact⟨Blk.new _ _ _,(Below.refl _ _).alloc (Nat.le_refl _) _⟩);have HGB:=Lib.hid hgb;(try rw[<-hw0]);(try rw[hgb]);clear hw0 hgb;go_wp2_with fail;refine(HC.out _).mono ?_;rintro e w1 ⟨rfl,hb1⟩;have HB1:Hid (Blk w1 gb 111 (T12 false false false 0 0 0 0 0 0 0 0 false)/\Below gb w w1):=Lib.hid ⟨HB0.out.1.below hb1 HB0.out.1.lt,HB0.out.2.trans (hb1.mono (Nat.le_of_lt HB0.out.1.lt))⟩;clear hb1;go_wp2_with fail;refine(HRD.out _).mono ?_;rintro e w2 ⟨⟨t0,t1,t2,t3,t4,t5,t6,t7,t8,t9,t10,t11⟩,ok,rfl,hb2,_⟩;have HB2:Hid (Blk w2 gb 111 (T12 false false false 0 0 0 0 0 0 0 0 false)/\Below gb w w2):=Lib.hid ⟨HB1.out.1.below hb2 HB1.out.1.lt,HB1.out.2.trans (hb2.mono (Nat.le_of_lt HB1.out.1.lt))⟩;clear hb2;simp only[RT.v];go_upto_region 5 with fail;obtain⟨g6,hg6⟩:∃g6,w2.heap.size=g6:=⟨_,rfl⟩
  obtain⟨w3,hw3⟩:∃w3,w2.alloc (.cells #[.bool t0,.bool t1,.bool t2,.int .i64 t3,.int .i64 t4,.int .i64 t5,.int .i64 t6,.int .i64 t7,.int .i64 t8,.int .i64 t9,.int .i64 t10,.bool t11] 111)=w3:=⟨_,rfl⟩
  have HB3:Hid (Blk w3 gb 111 (T12 false false false 0 0 0 0 0 0 0 0 false)/\Below gb w w3/\Blk w3 g6 111 (T12 t0 t1 t2 t3 t4 t5 t6 t7 t8 t9 t10 t11)):=Lib.hid (by rw[<-hw3,<-hg6];exact⟨HB2.out.1.alloc _,HB2.out.2.alloc (Nat.le_of_lt HB2.out.1.lt) _,Blk.new _ _ _⟩);(try rw[hw3]);(try rw[hg6]);clear hw3 hg6;obtain⟨q0,q1,q2,q3,q4,q5,q6,q7,q8,q9,q10,q11⟩:=cells12 HB3.out.2.2;have HB4:Hid (Blk w3 gb 111 (T12 false false false 0 0 0 0 0 0 0 0 false)/\Below gb w w3):=Lib.hid ⟨HB3.out.1,HB3.out.2.1⟩;have xb:∀j,w3.cell? ⟨gb,j,none⟩=(#[.bool false,.bool false,.bool false,.int .i64 0,.int .i64 0,.int .i64 0,.int .i64 0,.int .i64 0,.int .i64 0,.int .i64 0,.int .i64 0,.bool false]:Array Value)[j]? :=fun j=>HB4.out.1.cell j
  have xf:∀j,w3.frozen? ⟨gb,j,none⟩=false:=HB4.out.1.frozen;go_wp2_with fail;have HSB:Blk ((((((((((((w3.setCell ⟨gb,0,none⟩ (.bool t0)).setCell ⟨gb,1,none⟩ (.bool t1)).setCell ⟨gb,2,none⟩ (.bool t2)).setCell ⟨gb,3,none⟩ (.int .i64 t3)).setCell ⟨gb,4,none⟩ (.int .i64 t4)).setCell ⟨gb,5,none⟩ (.int .i64 t5)).setCell ⟨gb,6,none⟩ (.int .i64 t6)).setCell ⟨gb,7,none⟩ (.int .i64 t7)).setCell ⟨gb,8,none⟩ (.int .i64 t8)).setCell ⟨gb,9,none⟩ (.int .i64 t9)).setCell ⟨gb,10,none⟩ (.int .i64 t10)).setCell ⟨gb,11,none⟩ (.bool t11)) gb 111 (T12 t0 t1 t2 t3 t4 t5 t6 t7 t8 t9 t10 t11):=stored12 HB4.out.1;have HSH:Below gb w ((((((((((((w3.setCell ⟨gb,0,none⟩ (.bool t0)).setCell ⟨gb,1,none⟩ (.bool t1)).setCell ⟨gb,2,none⟩ (.bool t2)).setCell ⟨gb,3,none⟩ (.int .i64 t3)).setCell ⟨gb,4,none⟩ (.int .i64 t4)).setCell ⟨gb,5,none⟩ (.int .i64 t5)).setCell ⟨gb,6,none⟩ (.int .i64 t6)).setCell ⟨gb,7,none⟩ (.int .i64 t7)).setCell ⟨gb,8,none⟩ (.int .i64 t8)).setCell ⟨gb,9,none⟩ (.int .i64 t9)).setCell ⟨gb,10,none⟩ (.int .i64 t10)).setCell ⟨gb,11,none⟩ (.bool t11)):=below12 HB4.out.2 (Nat.le_refl gb) _ _ _ _ _ _ _ _ _ _ _ _;obtain⟨e0,e1,e2,e3,e4,e5,e6,e7,e8,e9,e10,e11⟩:=cells12 HSB;refine bodyPost_ret (v:=.tuple #[.agg #[.bool t0,.bool t1,.bool t2,.int .i64 t3,.int .i64 t4,.int .i64 t5,.int .i64 t6,.int .i64 t7,.int .i64 t8,.int .i64 t9,.int .i64 t10,.bool t11],.bool true]) (by rw[results_cell_tmp rfl];go_simp) rfl ?_;unfold CanonPost;rw[HGB.out,HF.out];exact⟨⟨t0,t1,t2,t3,t4,t5,t6,t7,t8,t9,t10,t11⟩,rfl,HSH⟩
theorem rinstant_any (s:Gr.Str) (hl:s.length<=1073741823) (w:World):
 Calls Tryz.prog 47 #[.string ⟨s.toArray⟩] w fun e w'=>e=.returned (.bool (Gr.insB s))/\Below w.heap.size w w':=by
 have HC:=Lib.hid (rcanon_any s hl w);obtain⟨r,hr⟩:∃r,Gr.insB s=r:=⟨_,rfl⟩
 rw[hr]at HC ⊢;clear hr;go_enter Tryz.func47,Tryz.ntmps47;go_wp2_with fail;refine HC.out.mono ?_;rintro e w1 ⟨⟨t0,t1,t2,t3,t4,t5,t6,t7,t8,t9,t10,t11⟩,rfl,hb1⟩;have HB1:=Lib.hid hb1;clear hb1;simp only[RT.v];go_wp2_with fail;go_ret;exact⟨rfl,HB1.out.alloc HB1.out.size _⟩
end Go.Proofs.YtoigpackhninoaaGreatDoor

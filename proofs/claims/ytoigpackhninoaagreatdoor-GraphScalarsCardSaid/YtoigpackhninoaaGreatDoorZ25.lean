import Derived.Test.YtoigpackhninoaaGreatDoorZ24
namespace Go.Proofs.YtoigpackhninoaaGreatDoor
open Gr
open _root_.Go.Proofs.Tryz
open _root_.Go.Lib (hid)
set_option maxRecDepth 100000
set_option maxHeartbeats 16000000
open Go.RowKit
noncomputable def osP (n:Int) (nanos:Nat):Gr.Str×Nat:=if n< -62167219200\/253402300800<=n then([],13)else(momS (n /86400) (n%86400).toNat nanos,0)
def zcn (r:Gr.Str×Nat) (w:World) (e:Ending) (w':World):Prop:=e=.returned (.tuple #[.string ⟨r.1.toArray⟩,.int .i64 (r.2:Nat)])/\Below w.heap.size w w'
theorem zpg {n:Int} {y m d:Int} (hv:Cal.vld y m d=true) (hn:Cal.num y m d=n):∃a b c:Nat,y=a/\m=b/\d=c/\a<=9999/\b<=99/\c<=99/\dateOf n=(a,b,c):=by
 have h:=Cal.zmc hv;have hd:=Cal.ztc y m;refine⟨y.toNat,m.toNat,d.toNat,by omega,by omega,by omega,by omega,by omega,by omega,?_⟩;apply zgr
 ·rw[show((y.toNat:Nat):Int)=y from by omega,show((m.toNat:Nat):Int)=m from by omega,show((d.toNat:Nat):Int)=d from by omega];exact hv
 ·rw[show((y.toNat:Nat):Int)=y from by omega,show((m.toNat:Nat):Int)=m from by omega,show((d.toNat:Nat):Int)=d from by omega,hn]
theorem zt9 (n:Int):-86400<n.tmod 86400/\n.tmod 86400<86400/\n=86400*n.tdiv 86400+n.tmod 86400:=by
 have h1:=Int.mul_tdiv_add_tmod n 86400;have h2:=Int.tmod_lt_of_pos n (b:=86400) (by omega);have h3:=Int.tmod_lt_of_pos (-n) (b:=86400) (by omega);rw[Int.neg_tmod]at h3;omega
theorem zf2 (n:Int) (nanos:Nat) (j:Int) (hj:j=(nanos:Int)) (hna:nanos<=999999999) (h0:-900000000000<=n) (h1:n<=900000000000) (w:World) (hT:UT w):
 Calls prog 94 #[.int .i64 n,.int .i64 j] w (zcn (osP n nanos) w):=by
 subst hj;have HT:=hid hT;clear hT;have hna0:¬(nanos:Int)<0:=by omega
 have hna1:¬(999999999:Int)<(nanos:Int):=by omega
 by_cases hlo:n< -62167219200
 ·have HF:Hid (osP n nanos=([],13)):=hid (by unfold osP;rw[if_pos (.inl hlo)]);rw[HF.out];go_enter func94,ntmps94;go_wp2;go_ret2;exact⟨rfl,Below.refl _ _⟩
 ·by_cases hhi:253402300800<=n
  ·have HF:Hid (osP n nanos=([],13)):=hid (by unfold osP;rw[if_pos (.inr hhi)]);rw[HF.out];go_enter func94,ntmps94;go_wp2;go_ret2;exact⟨rfl,Below.refl _ _⟩
  ·obtain⟨D,hD⟩:=ex (n /86400)
   obtain⟨R,hR⟩:∃R:Nat,(n%86400).toNat=R:=⟨_,rfl⟩
   have hD0:-719528<=D:=by omega
   have hD1:D<=2932896:=by omega
   have hR1:R<=86399:=by omega
   have HDR:Hid (n /86400=D/\n%86400=(R:Int)):=hid ⟨hD,by omega⟩;obtain⟨M,hM⟩:=ex (momS D R nanos)
   have HM:=hid hM;have HF:Hid (osP n nanos=(M,0)):=hid (by unfold osP;rw[if_neg (by omega),hD,hR,hM]);rw[HF.out];have HDT:=hid (fun W=>zpf D hD0 hD1 W);clear hD hR hM;go_enter func94,ntmps94;go_upto_region 5 with fail;go_cut [6,7] (fun s6 s7 wx=>(∃q t:Int,s6=.int .i64 q/\s7=.int .i64 t/\Hid (n=86400*q+t/\-86400<t/\t<86400))/\wx=w)
   case first=>
    by_cases hn0:0<=n
    ·go_wp2;go_meet;exact⟨⟨_,_,rfl,rfl,hid ⟨by omega,by omega,by omega⟩⟩,rfl⟩
    ·have hb:=hid (zt9 n);go_wp2;go_meet;exact⟨⟨_,_,rfl,rfl,hid ⟨hb.out.2.2,hb.out.1,hb.out.2.1⟩⟩,rfl⟩
   case rest=>
   obtain⟨⟨q,t,rfl,rfl,HQT⟩,rfl⟩:=hcut;refine(‹∀(a:Act) (w_1:World),Code.wp prog _ _ a w_1->_›) _ _ ?_;have t0:-86400<t:=HQT.out.2.1;have t1:t<86400:=HQT.out.2.2;have q0:-11000000<=q:=by have:=HQT.out;omega
   have q1:q<=11000000:=by have:=HQT.out;omega
   go_upto_if 30 with fail;go_cut [6,7] (fun s6 s7 wx=>s6=.int .i64 D/\s7=.int .i64 (R:Int)/\wx=wc)
   case first=>
    by_cases ht:t<0
    ·have HE:Hid (q-1=D/\t+86400=(R:Int)):=hid (by have h1:=HQT.out;have h2:=HDR.out;omega);go_wp2;go_meet;rw[HE.out.1,HE.out.2];exact⟨rfl,rfl,rfl⟩
    ·have HE:Hid (q=D/\t=(R:Int)):=hid (by have h1:=HQT.out;have h2:=HDR.out;omega);go_wp2;go_meet;rw[HE.out.1,HE.out.2];exact⟨rfl,rfl,rfl⟩
   case rest=>
   obtain⟨rfl,rfl,rfl⟩:=hcut;refine(‹∀(a:Act) (w_1:World),Code.wp prog _ _ a w_1->_›) _ _ ?_;clear t0 t1 q0 q1;go_wp2_with fail;refine(HDT.out _).mono ?_;rintro e w1 ⟨y,m,d,rfl,hv,hnum,hb1⟩;obtain⟨a,b,c,rfl,rfl,rfl,ha,hb,hc,hdo⟩:=zpg hv hnum;obtain⟨p1,hp1⟩:∃p1:Nat,R /3600=p1:=⟨_,rfl⟩
   obtain⟨p2,hp2⟩:∃p2:Nat,R /60%60=p2:=⟨_,rfl⟩
   obtain⟨p3,hp3⟩:∃p3:Nat,R%60=p3:=⟨_,rfl⟩
   have i1:(R:Int) /3600=(p1:Int):=by omega
   have i2:(R:Int) /60%60=(p2:Int):=by omega
   have i3:(R:Int)%60=(p3:Int):=by omega
   have HTX:Hid (∀W,UT W->Calls prog 128 #[.agg #[.int .i64 3,.int .i64 (a:Int),.int .i64 (b:Int),.int .i64 (c:Int),.int .i64 (p1:Int),.int .i64 (p2:Int),.int .i64 (p3:Int),.int .i64 0,.int .i64 0,.int .i64 (nanos:Int),.int .u8 0]] W fun e w'=>e=.returned (.string ⟨(dateS a b c++[84]++clkS p1 p2 p3 nanos).toArray⟩)/\Below W.heap.size W w'):=hid (fun W hW=>zm6 a b c p1 p2 p3 nanos 0 0 0 ha hb hc (by omega) (by omega) (by omega) hna W hW);have HMM:Hid (M=(dateS a b c++[84]++clkS p1 p2 p3 nanos)++[90]):=hid (by rw[<-HM.out];unfold momS;rw[hdo,hp1,hp2,hp3];simp);obtain⟨S,hS⟩:=ex (dateS a b c++[84]++clkS p1 p2 p3 nanos)
   have hSl:S.length<=1000:=by
    rw[<-hS];have h2:(nanoS nanos).length<=10:=by
     unfold nanoS;split
     ·simp
     ·unfold trimZ;rw[List.length_cons,List.length_reverse];have:=(List.dropWhile_sublist (fun c:UInt8=>c==48) (l:=(Gr.pd 9 nanos).reverse)).length_le;rw[List.length_reverse,zax]at this;omega
    simp[dateS,clkS,zax];omega
   rw[hS]at HTX HMM;have HB1:Hid (Below wc.heap.size wc w1/\UT w1):=hid ⟨hb1,UT.stays _ _ HT.out hb1⟩;have hadd:=fun W=>zab S [90] (by simp;omega) W
   clear hv hnum hdo hp1 hp2 hp3 hS hb1;go_wp2_with fail;refine(HTX.out _ (UT.stays _ _ HB1.out.2 ((Below.refl _ _).alloc (Nat.le_refl _) _))).mono ?_;rintro e w2 ⟨rfl,hb2⟩;have HB2:Hid (Below wc.heap.size wc w2):=hid ((HB1.out.1.alloc HB1.out.1.size _).trans (hb2.mono (by have:=HB1.out.1.size;simp;omega)));clear hb2;go_wp2;go_ret2;unfold zcn;rw[HMM.out];exact⟨rfl,HB2.out⟩
theorem zcz (date time zone:Bool) (y m d h mi c nanos:Nat) (off:Int) (late:Bool) (hy:y<=999999999) (hm:m<=999999999) (hd:d<=999999999) (hh:h<=999999999) (hmi:mi<=999999999) (hc:c<=999999999) (hn:nanos<=999999999) (w:World):
 Calls prog 105 #[.agg #[.bool date,.bool time,.bool zone,.int .i64 (y:Int),.int .i64 (m:Int),.int .i64 (d:Int),.int .i64 (h:Int),.int .i64 (mi:Int),.int .i64 (c:Int),.int .i64 (nanos:Int),.int .i64 off,.bool late]] w fun e w'=>e=.returned (.string ⟨((if date=true then dateS y m d else[])++(if(date && time)=true then[84]else[])++(if time=true then clkS h mi c nanos else[])++(if zone=true then[90]else[]):Gr.Str).toArray⟩)/\Below w.heap.size w w':=by
 have HPY:=hid (fun W=>zbt y 4 (y:Int) 4 rfl rfl (by omega) (by omega) W);have LHPY:=zax 4 y;have HPM:=hid (fun W=>zbt m 2 (m:Int) 2 rfl rfl (by omega) (by omega) W);have LHPM:=zax 2 m;have HPD:=hid (fun W=>zbt d 2 (d:Int) 2 rfl rfl (by omega) (by omega) W);have LHPD:=zax 2 d;have HPH:=hid (fun W=>zbt h 2 (h:Int) 2 rfl rfl (by omega) (by omega) W);have LHPH:=zax 2 h;have HPI:=hid (fun W=>zbt mi 2 (mi:Int) 2 rfl rfl (by omega) (by omega) W);have LHPI:=zax 2 mi;have HPC:=hid (fun W=>zbt c 2 (c:Int) 2 rfl rfl (by omega) (by omega) W);have LHPC:=zax 2 c;have HPN:=hid (fun W=>zbt nanos 9 (nanos:Int) 9 rfl rfl (by omega) (by omega) W);have LHPN:=zax 9 nanos;obtain⟨py,epy⟩:=ex (Gr.pd 4 y)
 rw[epy]at HPY LHPY;obtain⟨pm,epm⟩:=ex (Gr.pd 2 m)
 rw[epm]at HPM LHPM;obtain⟨pd,epd⟩:=ex (Gr.pd 2 d)
 rw[epd]at HPD LHPD;obtain⟨ph,eph⟩:=ex (Gr.pd 2 h)
 rw[eph]at HPH LHPH;obtain⟨pi,epi⟩:=ex (Gr.pd 2 mi)
 rw[epi]at HPI LHPI;obtain⟨pc,epc⟩:=ex (Gr.pd 2 c)
 rw[epc]at HPC LHPC;obtain⟨pn,epn⟩:=ex (Gr.pd 9 nanos)
 rw[epn]at HPN LHPN;have HEQ:Hid (dateS y m d=py++[45]++pm++[45]++pd/\clkS h mi c nanos=ph++[58]++pi++[58]++pc++(if nanos=0 then([]:Gr.Str)else 46::trimZ pn)/\Gr.pd 9 nanos=pn):=hid ⟨by simp only[dateS,epy,epm,epd];simp,by simp only[clkS,nanoS,eph,epi,epc,epn];simp,epn⟩;clear epy epm epd eph epi epc epn;obtain⟨r,hr⟩:∃r:Gr.Str,((if date=true then dateS y m d else[])++(if(date && time)=true then[84]else[])++(if time=true then clkS h mi c nanos else[])++(if zone=true then[90]else[]))=r:=⟨_,rfl⟩
 have HR0:=hid hr;rw[hr];clear hr;obtain⟨gb,hgb⟩:=ex w.heap.size
 obtain⟨w0,hw0⟩:∃w0,w0=w.alloc (.cells #[.bool date,.bool time,.bool zone,.int .i64 (y:Int),.int .i64 (m:Int),.int .i64 (d:Int),.int .i64 (h:Int),.int .i64 (mi:Int),.int .i64 (c:Int),.int .i64 (nanos:Int),.int .i64 off,.bool late] 111):=⟨_,rfl⟩
 have HB0:Hid (Blk w0 gb 111 (T12 date time zone (y:Int) (m:Int) (d:Int) (h:Int) (mi:Int) (c:Int) (nanos:Int) off late)/\Below gb w w0):=hid (by rw[hw0,<-hgb];exact⟨Blk.new _ _ _,(Below.refl _ _).alloc (Nat.le_refl _) _⟩);have HGB:=hid hgb;have GHPY:Hid (∀W:WB w0.heap.size w0,Calls prog 139 #[.int .i64 (y:Int),.int .i64 4] W.w fun e w'=>e=.returned (.string ⟨py.toArray⟩)/\Below w0.heap.size w0 w'):=hid (fun W=>(HPY.out W.w).mono (fun _ _ ⟨e1,e2⟩=>⟨e1,W.h.trans (e2.mono W.h.size)⟩));have GHPM:Hid (∀W:WB w0.heap.size w0,Calls prog 139 #[.int .i64 (m:Int),.int .i64 2] W.w fun e w'=>e=.returned (.string ⟨pm.toArray⟩)/\Below w0.heap.size w0 w'):=hid (fun W=>(HPM.out W.w).mono (fun _ _ ⟨e1,e2⟩=>⟨e1,W.h.trans (e2.mono W.h.size)⟩));have GHPD:Hid (∀W:WB w0.heap.size w0,Calls prog 139 #[.int .i64 (d:Int),.int .i64 2] W.w fun e w'=>e=.returned (.string ⟨pd.toArray⟩)/\Below w0.heap.size w0 w'):=hid (fun W=>(HPD.out W.w).mono (fun _ _ ⟨e1,e2⟩=>⟨e1,W.h.trans (e2.mono W.h.size)⟩));have GHPH:Hid (∀W:WB w0.heap.size w0,Calls prog 139 #[.int .i64 (h:Int),.int .i64 2] W.w fun e w'=>e=.returned (.string ⟨ph.toArray⟩)/\Below w0.heap.size w0 w'):=hid (fun W=>(HPH.out W.w).mono (fun _ _ ⟨e1,e2⟩=>⟨e1,W.h.trans (e2.mono W.h.size)⟩));have GHPI:Hid (∀W:WB w0.heap.size w0,Calls prog 139 #[.int .i64 (mi:Int),.int .i64 2] W.w fun e w'=>e=.returned (.string ⟨pi.toArray⟩)/\Below w0.heap.size w0 w'):=hid (fun W=>(HPI.out W.w).mono (fun _ _ ⟨e1,e2⟩=>⟨e1,W.h.trans (e2.mono W.h.size)⟩));have GHPC:Hid (∀W:WB w0.heap.size w0,Calls prog 139 #[.int .i64 (c:Int),.int .i64 2] W.w fun e w'=>e=.returned (.string ⟨pc.toArray⟩)/\Below w0.heap.size w0 w'):=hid (fun W=>(HPC.out W.w).mono (fun _ _ ⟨e1,e2⟩=>⟨e1,W.h.trans (e2.mono W.h.size)⟩));clear HPY HPM HPD HPH HPI HPC;go_enter func105,ntmps105;go_upto_region 2 with fail;(try rw[<-hw0]);(try rw[hgb]);clear hw0 hgb;have q0:w0.cell? ⟨gb,0,none⟩=some (.bool date):=(HB0.out.1.below (Below.refl _ _) HB0.out.1.lt).cell 0;go_upto_if 6 with fail;go_cut [3] (fun s3 wx=>∃S:Gr.Str,s3=.string ⟨S.toArray⟩/\S.length<=60/\Hid (S=(if date=true then dateS y m d else[])/\Below w0.heap.size w0 wx))
 case first=>
  cases date with
  |true=>
   go_upto_region 3 with fail;clear q0;have p3:∀W:WB w0.heap.size w0,W.w.cell? ⟨gb,3,none⟩=some (.int .i64 (y:Int)):=fun W=>(HB0.out.1.below W.h HB0.out.1.lt).cell 3
   have p4:∀W:WB w0.heap.size w0,W.w.cell? ⟨gb,4,none⟩=some (.int .i64 (m:Int)):=fun W=>(HB0.out.1.below W.h HB0.out.1.lt).cell 4
   have p5:∀W:WB w0.heap.size w0,W.w.cell? ⟨gb,5,none⟩=some (.int .i64 (d:Int)):=fun W=>(HB0.out.1.below W.h HB0.out.1.lt).cell 5
   obtain⟨s1,hs1⟩:∃x:Gr.Str,py++[45]=x:=⟨_,rfl⟩
   have Ls1:s1.length<=20:=by rw[<-hs1];simp<;>omega
   have as1:=fun W=>zab py [45] (by first|omega| (simp<;>omega)) W
   rw[hs1]at as1;have Hs1:=hid hs1;clear hs1;obtain⟨s2,hs2⟩:∃x:Gr.Str,s1++pm=x:=⟨_,rfl⟩
   have Ls2:s2.length<=30:=by rw[<-hs2];simp<;>omega
   have as2:=fun W=>zab s1 pm (by first|omega| (simp<;>omega)) W
   rw[hs2]at as2;have Hs2:=hid hs2;clear hs2;obtain⟨s3,hs3⟩:∃x:Gr.Str,s2++[45]=x:=⟨_,rfl⟩
   have Ls3:s3.length<=40:=by rw[<-hs3];simp<;>omega
   have as3:=fun W=>zab s2 [45] (by first|omega| (simp<;>omega)) W
   rw[hs3]at as3;have Hs3:=hid hs3;clear hs3;obtain⟨s4,hs4⟩:∃x:Gr.Str,s3++pd=x:=⟨_,rfl⟩
   have Ls4:s4.length<=60:=by rw[<-hs4];simp<;>omega
   have as4:=fun W=>zab s3 pd (by first|omega| (simp<;>omega)) W
   rw[hs4]at as4;have Hs4:=hid hs4;clear hs4;refine zaa w0.heap.size w0 (by kernel_rfl) (by kernel_rfl) (Below.refl _ _) ?_
   iterate 14 (try go_big_quiet_step ((first| (with_reducible refine Calls.grow (GHPY.out _))| (with_reducible refine Calls.grow (GHPM.out _))| (with_reducible refine Calls.grow (GHPD.out _)))))
   refine wpQuiet_nil ?_;rintro _ ⟨wz,rfl⟩;go_wp2;go_meet;exact⟨s4,rfl,Ls4,hid ⟨by rw[if_pos trivial,HEQ.out.1,<-Hs4.out,<-Hs3.out,<-Hs2.out,<-Hs1.out],wz.h⟩⟩
  |false=>
   go_wp2;go_meet;exact⟨[],rfl,by simp,hid ⟨rfl,Below.refl _ _⟩⟩
 case rest=>
 obtain⟨S,rfl,hS,HS⟩:=hcut;clear q0;obtain⟨q0,q1⟩:=cells2 (HB0.out.1.below HS.out.2 HB0.out.1.lt);go_upto_region 4 with fail;obtain⟨wk,hwk⟩:∃wk,wk=wc:=⟨_,rfl⟩
 subst hwk;go_cut [25] (fun s25 wx=>s25=.bool (date && time)/\wx=wk)
 case first=>
  cases date<;>cases time
  all_goals
   go_wp2;go_meet;exact⟨rfl,rfl⟩
 case rest=>
 obtain⟨rfl,rfl⟩:=hcut;obtain⟨wk,hwk⟩:∃wk,wk=wc:=⟨_,rfl⟩
 subst hwk;go_upto_if 25 with fail;obtain⟨dt,hdt⟩:=ex (date && time)
 have HDT:=hid hdt;(try rw[hdt]);clear hdt;go_cut [3] (fun s3 wx=>∃U:Gr.Str,s3=.string ⟨U.toArray⟩/\U.length<=61/\Hid (U=S++(if(date && time)=true then[84]else[])/\wx=wk))
 case first=>
  cases dt with
  |true=>
   obtain⟨s5,hs5⟩:∃x:Gr.Str,S++[84]=x:=⟨_,rfl⟩
   have Ls5:s5.length<=61:=by rw[<-hs5];simp<;>omega
   have as5:=fun W=>zab S [84] (by first|omega| (simp<;>omega)) W
   rw[hs5]at as5;have Hs5:=hid hs5;clear hs5;go_wp2;go_meet;exact⟨s5,rfl,Ls5,hid ⟨by rw[HDT.out,if_pos rfl,Hs5.out],rfl⟩⟩
  |false=>
   go_wp2;go_meet;exact⟨S,rfl,by omega,hid ⟨by rw[HDT.out];simp,rfl⟩⟩
 case rest=>
 obtain⟨U,rfl,hU,HU⟩:=hcut;obtain⟨wm,hwm⟩:∃wm,wm=wc:=⟨_,rfl⟩
 subst hwm;have HBM:Hid (Below w0.heap.size w0 wm):=hid (by rw[HU.out.2];exact HS.out.2);clear q0 q1;have q1:wm.cell? ⟨gb,1,none⟩=some (.bool time):=(HB0.out.1.below HBM.out HB0.out.1.lt).cell 1;go_upto_region 6 with fail;go_upto_if 29 with fail;go_cut [3] (fun s3 wx=>∃V:Gr.Str,s3=.string ⟨V.toArray⟩/\V.length<=200/\Hid (V=U++(if time=true then clkS h mi c nanos else[])/\Below w0.heap.size w0 wx))
 case first=>
  cases time with
  |false=>
   go_wp2;go_meet;exact⟨U,rfl,by omega,hid ⟨by simp,HBM.out⟩⟩
  |true=>
   go_upto_region 7 with fail;clear q1;have p6:∀W:WB w0.heap.size w0,W.w.cell? ⟨gb,6,none⟩=some (.int .i64 (h:Int)):=fun W=>(HB0.out.1.below W.h HB0.out.1.lt).cell 6
   have p7:∀W:WB w0.heap.size w0,W.w.cell? ⟨gb,7,none⟩=some (.int .i64 (mi:Int)):=fun W=>(HB0.out.1.below W.h HB0.out.1.lt).cell 7
   have p8:∀W:WB w0.heap.size w0,W.w.cell? ⟨gb,8,none⟩=some (.int .i64 (c:Int)):=fun W=>(HB0.out.1.below W.h HB0.out.1.lt).cell 8
   obtain⟨s6,hs6⟩:∃x:Gr.Str,U++ph=x:=⟨_,rfl⟩
   have Ls6:s6.length<=80:=by rw[<-hs6];simp<;>omega
   have as6:=fun W=>zab U ph (by first|omega| (simp<;>omega)) W
   rw[hs6]at as6;have Hs6:=hid hs6;clear hs6;obtain⟨s7,hs7⟩:∃x:Gr.Str,s6++[58]=x:=⟨_,rfl⟩
   have Ls7:s7.length<=90:=by rw[<-hs7];simp<;>omega
   have as7:=fun W=>zab s6 [58] (by first|omega| (simp<;>omega)) W
   rw[hs7]at as7;have Hs7:=hid hs7;clear hs7;obtain⟨s8,hs8⟩:∃x:Gr.Str,s7++pi=x:=⟨_,rfl⟩
   have Ls8:s8.length<=110:=by rw[<-hs8];simp<;>omega
   have as8:=fun W=>zab s7 pi (by first|omega| (simp<;>omega)) W
   rw[hs8]at as8;have Hs8:=hid hs8;clear hs8;obtain⟨s9,hs9⟩:∃x:Gr.Str,s8++[58]=x:=⟨_,rfl⟩
   have Ls9:s9.length<=120:=by rw[<-hs9];simp<;>omega
   have as9:=fun W=>zab s8 [58] (by first|omega| (simp<;>omega)) W
   rw[hs9]at as9;have Hs9:=hid hs9;clear hs9;obtain⟨s10,hs10⟩:∃x:Gr.Str,s9++pc=x:=⟨_,rfl⟩
   have Ls10:s10.length<=140:=by rw[<-hs10];simp<;>omega
   have as10:=fun W=>zab s9 pc (by first|omega| (simp<;>omega)) W
   rw[hs10]at as10;have Hs10:=hid hs10;clear hs10;refine zaa w0.heap.size w0 (by kernel_rfl) (by kernel_rfl) HBM.out ?_
   iterate 16 (try go_big_quiet_step ((first| (with_reducible refine Calls.grow (GHPH.out _))| (with_reducible refine Calls.grow (GHPI.out _))| (with_reducible refine Calls.grow (GHPC.out _)))))
   refine wpQuiet_nil ?_;rintro _ ⟨wy,rfl⟩;have HCK:Hid (U++clkS h mi c nanos=s10++(if nanos=0 then([]:Gr.Str)else 46::trimZ pn)):=hid (by rw[HEQ.out.2.1,<-Hs10.out,<-Hs9.out,<-Hs8.out,<-Hs7.out,<-Hs6.out];simp);clear p6 p7 p8 as6 as7 as8 as9 as10;have q9:wy.w.cell? ⟨gb,9,none⟩=some (.int .i64 (nanos:Int)):=(HB0.out.1.below wy.h HB0.out.1.lt).cell 9;go_wp2_with fail;refine(HPN.out _).mono ?_;rintro e w5 ⟨rfl,hb5⟩;have HB5:Hid (Below w0.heap.size w0 w5):=hid (wy.h.trans (hb5.mono wy.h.size));clear hb5 q9;go_wp2_with fail;go_loop [4] (fun s4=>∃f:Gr.Str,s4=.string ⟨f.toArray⟩/\f.length<=9/\Hid (trimZ f=trimZ pn)) (fun s4=>match s4 with| .string x=>x.size|_=>0)
   case atStart=>exact⟨pn,rfl,by omega,hid rfl⟩
   case round=>
    obtain⟨f,rfl,hf9,HV⟩:=hrel;rcases List.eq_nil_or_concat f with rfl|⟨g,ch,hfg⟩
    ·have HE:Hid (U++clkS h mi c nanos=s10):=hid (by
      rw[HCK.out];have h1:=HV.out;rw[show(if nanos=0 then([]:Gr.Str)else 46::trimZ pn)=[]from by
       by_cases h0:nanos=0
       ·rw[if_pos h0]
       ·exact absurd h1.symm (by rw[<-HEQ.out.2.2];exact zme 9 nanos (by omega) (by omega))]
      simp)
     go_wp2;go_meet;exact⟨s10,rfl,by omega,hid ⟨by rw[if_pos trivial,HE.out],HB5.out⟩⟩
    ·have hF:f=g++[ch]:=by rw[hfg];simp
     have hgl:g.length<=8:=by rw[hF]at hf9;simp at hf9;omega
     have hg2:(f.length:Int)-1=(g.length:Int):=by rw[hF];simp
     have hlt:g.length<f.length:=by rw[hF];simp
     have hcg:f[g.length]'hlt=ch:=by
      have:∀l:Gr.Str,l=g++[ch]->∀h,l[g.length]'h=ch:=by rintro _ rfl h;simp
      exact this f hF hlt
     have hcut:=fun W=>zqd f g.length (g.length:Int) rfl (Nat.le_of_lt hlt) W
     rw[show f.take g.length=g from by rw[hF];simp]at hcut;have HTR:Hid (trimZ f=if ch=48 then trimZ g else f):=hid (by rw[hF];exact ze3 g ch);clear hF hfg;have hF0:(0:Int)<(f.length:Int):=by omega
     have hF0b:0<f.length:=by omega
     by_cases hz:ch=48
     ·have hb1:=zar f g.length hlt ch 48 48 (by decide) hcg hz;have hb2:=zaj f g.length hlt ch 48 48 (by decide) hcg hz;have HNX:Hid (trimZ g=trimZ pn):=hid (by rw[<-HV.out,HTR.out,if_pos hz]);have hms:g.length<f.length:=hlt;clear hcg hz;go_wp2;go_round
      case rel=>exact⟨g,rfl,by omega,HNX⟩
      case measure=>simp[ByteArray.size];omega
     ·have hb1:=zah f g.length hlt ch 48 48 (by decide) hcg hz;have hb2:=zak f g.length hlt ch 48 48 (by decide) hcg hz;have HTF:Hid (trimZ pn=f):=hid (by rw[<-HV.out,HTR.out,if_neg hz]);clear hcg hz hcut;obtain⟨s11,hs11⟩:∃x:Gr.Str,s10++[46]=x:=⟨_,rfl⟩
      have Ls11:s11.length<=150:=by rw[<-hs11];simp<;>omega
      have as11:=fun W=>zab s10 [46] (by first|omega| (simp<;>omega)) W
      rw[hs11]at as11;have Hs11:=hid hs11;clear hs11;obtain⟨s12,hs12⟩:∃x:Gr.Str,s11++f=x:=⟨_,rfl⟩
      have Ls12:s12.length<=170:=by rw[<-hs12];simp<;>omega
      have as12:=fun W=>zab s11 f (by first|omega| (simp<;>omega)) W
      rw[hs12]at as12;have Hs12:=hid hs12;clear hs12;have HE:Hid (U++clkS h mi c nanos=s12):=hid (by
       rw[HCK.out,<-Hs12.out,<-Hs11.out];have hn0:¬nanos=0:=fun h0=>by
        have h1:=HEQ.out.2.2;rw[h0,zmd]at h1;have h2:=HTF.out;rw[<-h1,zj3]at h2;rw[<-h2]at hF0b;simp at hF0b
       rw[if_neg hn0,HTF.out];simp)
      go_wp2;go_meet;exact⟨s12,rfl,by omega,hid ⟨by rw[if_pos trivial,HE.out],HB5.out⟩⟩
 case rest=>
 obtain⟨V,rfl,hV,HV⟩:=hcut;clear q1;have q2:wc.cell? ⟨gb,2,none⟩=some (.bool zone):=(HB0.out.1.below HV.out.2 HB0.out.1.lt).cell 2;have b2:=fun W=>zab V [90] (by first|omega| (simp<;>omega)) W
 have HZ:Hid (Below w.heap.size w wc):=hid (by rw[HGB.out];exact HB0.out.2.trans (HV.out.2.mono (Nat.le_of_lt HB0.out.1.lt)));cases zone with
 |true=>
  have HE:Hid (r=V++[90]):=hid (by rw[<-HR0.out,HV.out.1,HU.out.1,HS.out.1];rfl);go_wp2;go_ret;exact⟨by rw[HE.out]<;>rfl,HZ.out⟩
 |false=>
  have HE:Hid (r=V):=hid (by rw[<-HR0.out,HV.out.1,HU.out.1,HS.out.1];simp);go_wp2;go_ret;exact⟨by rw[HE.out]<;>rfl,HZ.out⟩
theorem zm7 (y m d h mi c nanos:Nat) (off:Int) (late:Bool) (hy:y<=999999999) (hm:m<=999999999) (hd:d<=999999999) (hh:h<=999999999) (hmi:mi<=999999999) (hc:c<=999999999) (hn:nanos<=999999999) (w:World):
 Calls prog 105 #[.agg #[.bool true,.bool false,.bool false,.int .i64 (y:Int),.int .i64 (m:Int),.int .i64 (d:Int),.int .i64 (h:Int),.int .i64 (mi:Int),.int .i64 (c:Int),.int .i64 (nanos:Int),.int .i64 off,.bool late]] w fun e w'=>e=.returned (.string ⟨(dateS y m d:Gr.Str).toArray⟩)/\Below w.heap.size w w':=by
 simpa using zcz true false false y m d h mi c nanos off late hy hm hd hh hmi hc hn w
theorem zm8 (y m d h mi c nanos:Nat) (off:Int) (late:Bool) (hy:y<=999999999) (hm:m<=999999999) (hd:d<=999999999) (hh:h<=999999999) (hmi:mi<=999999999) (hc:c<=999999999) (hn:nanos<=999999999) (w:World):
 Calls prog 105 #[.agg #[.bool false,.bool true,.bool false,.int .i64 (y:Int),.int .i64 (m:Int),.int .i64 (d:Int),.int .i64 (h:Int),.int .i64 (mi:Int),.int .i64 (c:Int),.int .i64 (nanos:Int),.int .i64 off,.bool late]] w fun e w'=>e=.returned (.string ⟨(clkS h mi c nanos:Gr.Str).toArray⟩)/\Below w.heap.size w w':=by
 simpa using zcz false true false y m d h mi c nanos off late hy hm hd hh hmi hc hn w
theorem zm9 (y m d h mi c nanos:Nat) (off:Int) (late:Bool) (hy:y<=999999999) (hm:m<=999999999) (hd:d<=999999999) (hh:h<=999999999) (hmi:mi<=999999999) (hc:c<=999999999) (hn:nanos<=999999999) (w:World):
 Calls prog 105 #[.agg #[.bool true,.bool true,.bool false,.int .i64 (y:Int),.int .i64 (m:Int),.int .i64 (d:Int),.int .i64 (h:Int),.int .i64 (mi:Int),.int .i64 (c:Int),.int .i64 (nanos:Int),.int .i64 off,.bool late]] w fun e w'=>e=.returned (.string ⟨((dateS y m d++[84]++clkS h mi c nanos):Gr.Str).toArray⟩)/\Below w.heap.size w w':=by
 simpa using zcz true true false y m d h mi c nanos off late hy hm hd hh hmi hc hn w
theorem zna (y m d h mi c nanos:Nat) (off:Int) (late:Bool) (hy:y<=999999999) (hm:m<=999999999) (hd:d<=999999999) (hh:h<=999999999) (hmi:mi<=999999999) (hc:c<=999999999) (hn:nanos<=999999999) (w:World):
 Calls prog 105 #[.agg #[.bool true,.bool true,.bool true,.int .i64 (y:Int),.int .i64 (m:Int),.int .i64 (d:Int),.int .i64 (h:Int),.int .i64 (mi:Int),.int .i64 (c:Int),.int .i64 (nanos:Int),.int .i64 off,.bool late]] w fun e w'=>e=.returned (.string ⟨((dateS y m d++[84]++clkS h mi c nanos++[90]):Gr.Str).toArray⟩)/\Below w.heap.size w w':=by
 simpa using zcz true true true y m d h mi c nanos off late hy hm hd hh hmi hc hn w
structure MoOk (x:Gr.Mo):Prop where
 y:x.y<=9999
 m:x.m<=99
 d:x.d<=99
 h:x.h<=99
 mi:x.mi<=99
 c:x.c<=99
 nanos:x.nanos<=999999999
 zh:x.zh<=99
 zm:x.zm<=99
 sh:(x.date=true/\x.time=true)\/(x.date=true/\x.time=false/\x.z=0)\/(x.date=false/\x.time=true/\x.z=0)
 z0:x.z=0->x.zh=0/\x.zm=0
theorem numAt2 {s:Gr.Str} {a v:Nat} (h:numAt s a 2=some v):v<=99:=by
 have:=(zcb h (by omega)).2.1;omega
theorem numAt4 {s:Gr.Str} {a v:Nat} (h:numAt s a 4=some v):v<=9999:=by
 have:=(zcb h (by omega)).2.1;omega
theorem zja {s:Gr.Str} {a:Nat} {k:Gr.Ck} (h:clockAt s a=some k):k.h<=99/\k.m<=99/\k.s<=99/\k.nanos<=999999999:=by
 unfold clockAt at h;split at h
 ·rename_i h1 h2 h3;have b1:=numAt2 h1;have b2:=numAt2 h2;have b3:=numAt2 h3;split at h
  ·split at h
   ·split at h
    ·cases h
    ·rename_i hn;injection h with h
     subst h;refine⟨b1,b2,b3,?_⟩;have hd:=zdi (s.drop (a+9));have hv:=zd9 _ hd;generalize (s.drop (a+9)).takeWhile Gr.dig=l at *;have:Gr.val l*10 ^ (9-l.length)<10 ^ l.length*10 ^ (9-l.length):=Nat.mul_lt_mul_of_pos_right hv (Nat.pow_pos (by omega));rw[<-Nat.pow_add,show l.length+(9-l.length)=9 from by omega]at this;show Gr.val l*10 ^ (9-l.length)<=999999999;omega
   ·grind
  ·cases h
 ·cases h
theorem zr4 {s:Gr.Str} {a:Nat} {z:Gr.Zn} (h:zoneAt s a=some z):z.h<=99/\z.m<=99:=by
 unfold zoneAt at h;split at h
 ·grind
 ·split at h
  ·rename_i h1 h2;split at h
   ·injection h with h;subst h;exact⟨numAt2 h1,numAt2 h2⟩
   ·cases h
  ·cases h
theorem znb {s:Gr.Str} {x:Gr.Mo} (h:Gr.rd s=some x):MoOk x:=by
 unfold Gr.rd at h;split at h
 ·split at h
  ·rename_i k hk;obtain⟨b1,b2,b3,b4⟩:=zja hk;split at h
   ·injection h with h;subst h
    exact⟨Nat.zero_le _,Nat.zero_le _,Nat.zero_le _,b1,b2,b3,b4,Nat.zero_le _,Nat.zero_le _,.inr (.inr ⟨rfl,rfl,rfl⟩),fun _=>⟨rfl,rfl⟩⟩
   ·cases h
  ·cases h
 ·rename_i y m d hd;have hb:y<=9999/\m<=99/\d<=99:=by
   unfold dateAt at hd;split at hd
   ·rename_i h1 h2 h3;split at hd
    ·injection hd with hd
     injection hd with e1 e2
     injection e2 with e2 e3
     subst e1 e2 e3;exact⟨numAt4 h1,numAt2 h2,numAt2 h3⟩
    ·cases hd
   ·cases hd
  obtain⟨c1,c2,c3⟩:=hb;split at h
  ·injection h with h;subst h
   exact⟨c1,c2,c3,Nat.zero_le _,Nat.zero_le _,Nat.zero_le _,Nat.zero_le _,Nat.zero_le _,Nat.zero_le _,.inr (.inl ⟨rfl,rfl,rfl⟩),fun _=>⟨rfl,rfl⟩⟩
  ·split at h
   ·split at h
    ·cases h
    ·rename_i k hk;obtain⟨b1,b2,b3,b4⟩:=zja hk;split at h
     ·injection h with h;subst h
      exact⟨c1,c2,c3,b1,b2,b3,b4,Nat.zero_le _,Nat.zero_le _,.inl ⟨rfl,rfl⟩,fun _=>⟨rfl,rfl⟩⟩
     ·split at h
      ·rename_i z hz;obtain⟨d1,d2⟩:=zr4 hz;split at h
       ·injection h with h;subst h
        exact⟨c1,c2,c3,b1,b2,b3,b4,d1,d2,.inl ⟨rfl,rfl⟩,fun e=>absurd e (zm5 hz)⟩
       ·cases h
      ·cases h
   ·cases h
theorem znc {x:Gr.Mo} (h:MoOk x):rngB x.date x.y x.m x.d x.h x.mi x.c (decide (23<x.zh) || decide (59<x.zm))=okR x:=by
 unfold rngB okR Cal.vld;have hy:decide ((0:Int)<=(x.y:Int))=true:=by simp
 have hy9:decide ((x.y:Int)<=9999)=true:=by have:=h.y;simp;omega
 rw[hy,hy9];have e1:decide ((x.h:Int)<=23)=decide (x.h<=23):=by rw[Bool.eq_iff_iff];simp;omega
 have e2:decide ((x.mi:Int)<=59)=decide (x.mi<=59):=by rw[Bool.eq_iff_iff];simp;omega
 have e3:decide ((x.c:Int)<=59)=decide (x.c<=59):=by rw[Bool.eq_iff_iff];simp;omega
 have e4:(!(decide (23<x.zh) || decide (59<x.zm)))=(decide (x.zh<=23) && decide (x.zm<=59)):=by rw[Bool.eq_iff_iff];simp
 rw[e1,e2,e3,e4];cases x.date<;>simp[Bool.and_assoc,Bool.and_comm,Bool.and_left_comm]
end Go.Proofs.YtoigpackhninoaaGreatDoor

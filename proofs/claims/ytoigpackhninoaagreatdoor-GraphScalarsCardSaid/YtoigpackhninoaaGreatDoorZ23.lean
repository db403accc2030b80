import Derived.Test.YtoigpackhninoaaGreatDoorGrInsP4
import Derived.Test.YtoigpackhninoaaGreatDoorZ07
namespace Go.Proofs.YtoigpackhninoaaGreatDoor
open Gr
open Go.RowKit
def za3 (s:Gr.Str) (a:Nat) (date:Bool) (Y M D:Int) (w:World) (e:Ending) (w':World):Prop:=∃(t:RT) (r:Int),e=.returned (.tuple #[t.v,.int .i64 r])/\Below w.heap.size w w'/\
 match clockAt s a with
 |none=>r=-1
 |some k=>r=(k.stop:Int)/\t=⟨date,true,false,Y,M,D,k.h,k.m,k.s,k.nanos,0,false⟩
def fracU (n:Nat):Nat:=if n<=8 then 10 ^ (8-n)else 0
structure Frac (s:Gr.Str) (b n N U:Nat):Prop where
 le:b+n<=s.length
 dig:((s.drop b).take n).all Gr.dig=true
 u:U=fracU n
 nn:n<=9->N=Gr.val ((s.drop b).take n)*10 ^ (9-n)
 hi:N<=999999999
theorem zm1 (n:Nat):fracU n /10=fracU (n+1):=by
 unfold fracU;by_cases h:n+1<=8
 ·rw[if_pos (by omega),if_pos h,show 8-n=(8-(n+1))+1 from by omega,Nat.pow_succ,Nat.mul_div_cancel _ (by omega)]
 ·grind
theorem Frac.start {s:Gr.Str} {b:Nat} (h:b<=s.length):Frac s b 0 0 100000000:=⟨h,by simp,by simp[fracU],fun _=>by simp[Gr.val],by omega⟩
theorem Frac.next {s:Gr.Str} {b n N U:Nat} (h:Frac s b n N U) (hlt:b+n<s.length) (hd:Gr.dig (s[b+n])=true):Frac s b (n+1) (N+U*Gr.dv s[b+n]) (U /10):=by
 have ht:=zb1 s b n hlt;have hda:((s.drop b).take (n+1)).all Gr.dig=true:=by rw[ht,List.all_append,h.dig];simp[hd]
 refine⟨by omega,hda,by rw[h.u,zm1],?_,?_⟩
 ·intro hn;rw[h.nn (by omega),ht,zba,h.u];unfold fracU;rw[if_pos (by omega),show 9-n=(8-n)+1 from by omega,Nat.pow_succ,show 9-(n+1)=8-n from by omega];rw[Nat.add_mul,Nat.mul_comm (10 ^ (8-n)) (Gr.dv _)]
  congr 1
  rw[Nat.mul_comm (10 ^ (8-n)) 10,<-Nat.mul_assoc,Nat.mul_comm (Gr.val _) 10]
 ·by_cases hn:n+1<=9
  ·have e:N+U*Gr.dv s[b+n]=Gr.val ((s.drop b).take (n+1))*10 ^ (9-(n+1)):=by
    rw[h.nn (by omega),ht,zba,h.u];unfold fracU;rw[if_pos (by omega),show 9-n=(8-n)+1 from by omega,Nat.pow_succ,show 9-(n+1)=8-n from by omega];rw[Nat.add_mul,Nat.mul_comm (10 ^ (8-n)) (Gr.dv _)]
    congr 1
    rw[Nat.mul_comm (10 ^ (8-n)) 10,<-Nat.mul_assoc,Nat.mul_comm (Gr.val _) 10]
   rw[e];have hv:=zd9 _ hda;have hlen:((s.drop b).take (n+1)).length=n+1:=by simp;omega
   rw[hlen]at hv;have:Gr.val ((s.drop b).take (n+1))*10 ^ (9-(n+1))<10 ^ (n+1)*10 ^ (9-(n+1)):=Nat.mul_lt_mul_of_pos_right hv (Nat.pow_pos (by omega));rw[<-Nat.pow_add,show n+1+(9-(n+1))=9 from by omega]at this;omega
  ·have:U=0:=by rw[h.u];unfold fracU;rw[if_neg (by omega)]
   rw[this,Nat.zero_mul];exact h.hi
theorem Frac.stop {s:Gr.Str} {b n N U:Nat} (h:Frac s b n N U) (hn:∀h2:b+n<s.length,Gr.dig (s[b+n]'h2)=false):(s.drop b).takeWhile Gr.dig=(s.drop b).take n:=by
 have h1:s.drop b=(s.drop b).take n++s.drop (b+n):=by
  rw[<-List.drop_drop];exact(List.take_append_drop n (s.drop b)).symm
 rw[h1,List.takeWhile_append_of_pos (by simpa using h.dig)];have h2:(s.drop (b+n)).takeWhile Gr.dig=[]:=by
  rcases Nat.lt_or_ge (b+n) s.length with h3|h3
  ·rw[List.drop_eq_getElem_cons h3,List.takeWhile_cons,hn h3];rfl
  ·rw[List.drop_eq_nil_of_le h3];rfl
 have hle:=h.le;rw[h2,List.append_nil,List.take_append_of_le_length (by simp;omega),List.take_take,Nat.min_self]
theorem zke {s:Gr.Str} {a h m c n N U:Nat} (h1:numAt s a 2=some h) (h2:numAt s (a+3) 2=some m) (h3:numAt s (a+6) 2=some c) (h4:isAt s (a+2) 58=true) (h5:isAt s (a+5) 58=true) (h6:isAt s (a+8) 46=true)
 (hf:Frac s (a+9) n N U) (hn:∀h2:a+9+n<s.length,Gr.dig (s[a+9+n]'h2)=false):clockAt s a=if n<1\/9<n then none else some ⟨h,m,c,N,a+9+n⟩:=by
 have e:=hf.stop hn;have hle:=hf.le;have hlen:((s.drop (a+9)).take n).length=n:=by simp;omega
 unfold clockAt;rw[h1,h2,h3,h4,h5,h6,e,hlen];simp only[Bool.and_self,if_true];by_cases hc:n<1\/9<n
 ·grind
 ·rw[if_neg hc,if_neg (by omega),hf.nn (by omega)]
theorem zh2 {s:Gr.Str} {a h m c:Nat} (h1:numAt s a 2=some h) (h2:numAt s (a+3) 2=some m) (h3:numAt s (a+6) 2=some c) (h4:isAt s (a+2) 58=true) (h5:isAt s (a+5) 58=true) (h6:isAt s (a+8) 46=false):clockAt s a=some ⟨h,m,c,0,a+8⟩:=by
 unfold clockAt;rw[h1,h2,h3,h4,h5,h6];rfl
open _root_.Go.Proofs.Tryz
open _root_.Go.Lib (hid)
set_option maxRecDepth 100000
set_option maxHeartbeats 16000000
theorem rep48 (n:Nat):Lib.repeatL [48] n=List.replicate n (48:UInt8):=by
 induction n with
 |zero=>rfl
 |succ n ih=>
  show[48]++Lib.repeatL [48] n=_;rw[ih];rfl
theorem zbs (x n:Nat) (i j:Int) (hi:i=(x:Int)) (hj:j=(n:Int)) (h1:1<=n) (hn:n<=9) (hx:x<10 ^ n) (w:World) (hT:UT w):
 Calls prog 160 #[.int .i64 i,.int .i64 j] w fun e w'=>e=.returned (.string ⟨(Gr.pd n x).toArray⟩)/\Below w.heap.size w w':=by
 subst hi;subst hj;have hx9:x<1000000000:=Nat.lt_of_lt_of_le hx (Nat.pow_le_pow_right (n:=10) (by omega) (show n<=9 by omega));have hlen:(Lib.decDigits x).length<=n:=by rw[Lib.decDigits_length];exact Nat.le_of_succ_le_succ (by have:=Gr.zbb (n-1) x (by rwa[show n-1+1=n from by omega]);omega)
 have HI:=hid (fun(W:World) (hW:UT W)=>zfs (x:Int) (by omega) (by omega) W hW);rw[Gr.zfn]at HI;have HPD:=hid (Gr.zqg n x h1 hx);obtain⟨d,hd⟩:=ex (Lib.decDigits x)
 rw[hd]at HI HPD hlen;obtain⟨r,hr⟩:=ex (Gr.pd n x)
 rw[hr]at HPD ⊢;obtain⟨z,hz⟩:=ex (List.replicate (n-d.length) (48:UInt8))
 have hzl:z.length<=9:=by rw[<-hz];simp;omega
 have HRP:Hid (∀W,Calls prog 184 #[.string ⟨#[48]⟩,.int .i64 ((n-d.length:Nat):Int)] W fun e w'=>e=.returned (.string ⟨z.toArray⟩)/\Below W.heap.size W w'):=hid (fun W=>by
  have:=strings_Repeat ⟨#[48]⟩ (n-d.length) W (by omega) (by show 1*(n-d.length)<=_;omega);rw[show(⟨#[48]⟩:ByteArray).data.toList=[48]from rfl,rep48,hz]at this;exact this)
 rw[hz]at HPD;have hmx:((n-d.length:Nat):Int)=max 0 ((n:Int)-(d.length:Int)):=by omega
 rw[hmx]at HRP;have hm0:0<=(n:Int)-(d.length:Int):=by omega
 have hadd:=fun W=>zab z d (by omega) W
 rw[HPD.out]at hadd;have HTW:=hid hT;clear hd hr hz hmx hT hx;go_enter func160,ntmps160;go_wp2_with fail;refine(HI.out _ HTW.out).mono ?_;rintro e w1 ⟨rfl,hb1⟩;have HB1:=hid hb1;clear hb1;go_wp2_with fail;refine(HRP.out _).mono ?_;rintro e w2 ⟨rfl,hb2⟩;have HB2:Hid (Below w.heap.size w w2):=hid (HB1.out.trans (hb2.mono HB1.out.size));clear hb2;go_wp2;go_ret;exact⟨rfl,HB2.out⟩
theorem zeh (sh:Int) (y m d h mi c nanos:Nat) (zh zm z:Int) (hy:y<=9999) (hm:m<=99) (hd:d<=99) (hh:h<=99) (hmi:mi<=99) (hc:c<=99) (hn:nanos<=999999999) (hn0:sh=1->nanos=0) (w:World) (hT:UT w):
 Calls prog 128 #[.agg #[.int .i64 sh,.int .i64 (y:Int),.int .i64 (m:Int),.int .i64 (d:Int),.int .i64 (h:Int),.int .i64 (mi:Int),.int .i64 (c:Int),.int .i64 zh,.int .i64 zm,.int .i64 (nanos:Int),.int .u8 z]] w fun e w'=>e=.returned (.string ⟨((if sh=2 then[]else dateS y m d)++(if sh=3 then[84]else[])++(if sh=1 then[]else clkS h mi c nanos):Gr.Str).toArray⟩)/\Below w.heap.size w w':=by
 have HT:=hid hT;have HN0:=hid hn0;clear hT hn0;have HPY:=hid (fun(W:World) (hW:UT W)=>zbs y 4 (y:Int) 4 rfl rfl (by omega) (by omega) (by omega) W hW);have LHPY:=zax 4 y;have HPM:=hid (fun(W:World) (hW:UT W)=>zbs m 2 (m:Int) 2 rfl rfl (by omega) (by omega) (by omega) W hW);have LHPM:=zax 2 m;have HPD:=hid (fun(W:World) (hW:UT W)=>zbs d 2 (d:Int) 2 rfl rfl (by omega) (by omega) (by omega) W hW);have LHPD:=zax 2 d;have HPH:=hid (fun(W:World) (hW:UT W)=>zbs h 2 (h:Int) 2 rfl rfl (by omega) (by omega) (by omega) W hW);have LHPH:=zax 2 h;have HPI:=hid (fun(W:World) (hW:UT W)=>zbs mi 2 (mi:Int) 2 rfl rfl (by omega) (by omega) (by omega) W hW);have LHPI:=zax 2 mi;have HPC:=hid (fun(W:World) (hW:UT W)=>zbs c 2 (c:Int) 2 rfl rfl (by omega) (by omega) (by omega) W hW);have LHPC:=zax 2 c;have HPN:=hid (fun(W:World) (hW:UT W)=>zbs nanos 9 (nanos:Int) 9 rfl rfl (by omega) (by omega) (by omega) W hW);have LHPN:=zax 9 nanos;obtain⟨py,epy⟩:=ex (Gr.pd 4 y)
 rw[epy]at HPY LHPY;obtain⟨pm,epm⟩:=ex (Gr.pd 2 m)
 rw[epm]at HPM LHPM;obtain⟨pd,epd⟩:=ex (Gr.pd 2 d)
 rw[epd]at HPD LHPD;obtain⟨ph,eph⟩:=ex (Gr.pd 2 h)
 rw[eph]at HPH LHPH;obtain⟨pi,epi⟩:=ex (Gr.pd 2 mi)
 rw[epi]at HPI LHPI;obtain⟨pc,epc⟩:=ex (Gr.pd 2 c)
 rw[epc]at HPC LHPC;obtain⟨pn,epn⟩:=ex (Gr.pd 9 nanos)
 rw[epn]at HPN LHPN;have HEQ:Hid (dateS y m d=py++[45]++pm++[45]++pd/\clkS h mi c nanos=ph++[58]++pi++[58]++pc++nanoS nanos/\nanoS nanos=(if nanos=0 then[]else 46::trimZ pn)):=hid ⟨by simp only[dateS,epy,epm,epd];simp,by simp only[clkS,eph,epi,epc];simp,by simp only[nanoS,epn]⟩;clear epy epm epd eph epi epc epn;obtain⟨r,hr⟩:∃r:Gr.Str,((if sh=2 then[]else dateS y m d)++(if sh=3 then[84]else[])++(if sh=1 then[]else clkS h mi c nanos):Gr.Str)=r:=⟨_,rfl⟩
 have HR0:=hid hr;rw[hr];clear hr;obtain⟨gb,hgb⟩:=ex w.heap.size
 obtain⟨w0,hw0⟩:∃w0,w0=w.alloc (.cells #[.int .i64 sh,.int .i64 (y:Int),.int .i64 (m:Int),.int .i64 (d:Int),.int .i64 (h:Int),.int .i64 (mi:Int),.int .i64 (c:Int),.int .i64 zh,.int .i64 zm,.int .i64 (nanos:Int),.int .u8 z] 135):=⟨_,rfl⟩
 have HB0:Hid (Blk w0 gb 135 #[.int .i64 sh,.int .i64 (y:Int),.int .i64 (m:Int),.int .i64 (d:Int),.int .i64 (h:Int),.int .i64 (mi:Int),.int .i64 (c:Int),.int .i64 zh,.int .i64 zm,.int .i64 (nanos:Int),.int .u8 z]/\Below gb w w0/\UT w0):=hid (by
  rw[hw0,<-hgb];exact⟨Blk.new _ _ _,(Below.refl _ _).alloc (Nat.le_refl _) _,UT.stays _ _ HT.out ((Below.refl _ _).alloc (Nat.le_refl _) _)⟩)
 have HUT:Hid (∀W:WB w0.heap.size w0,UT W.w):=hid (fun W=>UT.stays _ _ HB0.out.2.2 W.h);have HGB:=hid hgb;have GHPY:Hid (∀W:WB w0.heap.size w0,Calls prog 160 #[.int .i64 (y:Int),.int .i64 4] W.w fun e w'=>e=.returned (.string ⟨py.toArray⟩)/\Below w0.heap.size w0 w'):=hid (fun W=>(HPY.out W.w (HUT.out W)).mono (fun _ _ ⟨e1,e2⟩=>⟨e1,W.h.trans (e2.mono W.h.size)⟩));have GHPM:Hid (∀W:WB w0.heap.size w0,Calls prog 160 #[.int .i64 (m:Int),.int .i64 2] W.w fun e w'=>e=.returned (.string ⟨pm.toArray⟩)/\Below w0.heap.size w0 w'):=hid (fun W=>(HPM.out W.w (HUT.out W)).mono (fun _ _ ⟨e1,e2⟩=>⟨e1,W.h.trans (e2.mono W.h.size)⟩));have GHPD:Hid (∀W:WB w0.heap.size w0,Calls prog 160 #[.int .i64 (d:Int),.int .i64 2] W.w fun e w'=>e=.returned (.string ⟨pd.toArray⟩)/\Below w0.heap.size w0 w'):=hid (fun W=>(HPD.out W.w (HUT.out W)).mono (fun _ _ ⟨e1,e2⟩=>⟨e1,W.h.trans (e2.mono W.h.size)⟩));have GHPH:Hid (∀W:WB w0.heap.size w0,Calls prog 160 #[.int .i64 (h:Int),.int .i64 2] W.w fun e w'=>e=.returned (.string ⟨ph.toArray⟩)/\Below w0.heap.size w0 w'):=hid (fun W=>(HPH.out W.w (HUT.out W)).mono (fun _ _ ⟨e1,e2⟩=>⟨e1,W.h.trans (e2.mono W.h.size)⟩));have GHPI:Hid (∀W:WB w0.heap.size w0,Calls prog 160 #[.int .i64 (mi:Int),.int .i64 2] W.w fun e w'=>e=.returned (.string ⟨pi.toArray⟩)/\Below w0.heap.size w0 w'):=hid (fun W=>(HPI.out W.w (HUT.out W)).mono (fun _ _ ⟨e1,e2⟩=>⟨e1,W.h.trans (e2.mono W.h.size)⟩));have GHPC:Hid (∀W:WB w0.heap.size w0,Calls prog 160 #[.int .i64 (c:Int),.int .i64 2] W.w fun e w'=>e=.returned (.string ⟨pc.toArray⟩)/\Below w0.heap.size w0 w'):=hid (fun W=>(HPC.out W.w (HUT.out W)).mono (fun _ _ ⟨e1,e2⟩=>⟨e1,W.h.trans (e2.mono W.h.size)⟩));clear HPY HPM HPD HPH HPI HPC;go_enter func128,ntmps128;go_upto_region 2 with fail;(try rw[<-hw0]);(try rw[hgb]);clear hw0 hgb;have q0:w0.cell? ⟨gb,0,none⟩=some (.int .i64 sh):=(HB0.out.1.below (Below.refl _ _) HB0.out.1.lt).cell 0;go_upto_if 6 with fail;go_cut [3] (fun s3 wx=>∃S:Gr.Str,s3=.string ⟨S.toArray⟩/\S.length<=60/\Hid (S=(if sh=2 then[]else dateS y m d)/\Below w0.heap.size w0 wx))
 case first=>
  by_cases h2:sh=2
  ·have h2b:(sh != 2)=false:=by simp[h2]
   have HX:Hid (([]:Gr.Str)=if sh=2 then[]else dateS y m d):=hid (by rw[if_pos h2]);clear h2;go_wp2;go_meet;exact⟨[],rfl,by simp,hid ⟨HX.out,Below.refl _ _⟩⟩
  ·have h2b:(sh != 2)=true:=by simpa using h2
   have HX:Hid ((if sh=2 then[]else dateS y m d)=dateS y m d):=hid (by rw[if_neg h2]);clear h2;go_upto_region 3 with fail;clear q0;have p1:∀W:WB w0.heap.size w0,W.w.cell? ⟨gb,1,none⟩=some (.int .i64 (y:Int)):=fun W=>(HB0.out.1.below W.h HB0.out.1.lt).cell 1
   have p2:∀W:WB w0.heap.size w0,W.w.cell? ⟨gb,2,none⟩=some (.int .i64 (m:Int)):=fun W=>(HB0.out.1.below W.h HB0.out.1.lt).cell 2
   have p3:∀W:WB w0.heap.size w0,W.w.cell? ⟨gb,3,none⟩=some (.int .i64 (d:Int)):=fun W=>(HB0.out.1.below W.h HB0.out.1.lt).cell 3
   obtain⟨s1,hs1⟩:∃x:Gr.Str,py++[45]=x:=⟨_,rfl⟩
   have Ls1:s1.length<=20:=by rw[<-hs1];simp<;>omega
   have as1:=fun W=>zab py [45] (by first|omega| (simp<;>omega)) W
   rw[hs1]at as1;have Hs1:=hid hs1;clear hs1;obtain⟨s2,hs2⟩:∃x:Gr.Str,s1++pm=x:=⟨_,rfl⟩
   have Ls2:s2.length<=30:=by rw[<-hs2];simp<;>omega
   have as2:=fun W=>zab s1 pm (by first|omega| (simp<;>omega)) W
   rw[hs2]at as2;have Hs2:=hid hs2;clear hs2;obtain⟨s3,hs3⟩:∃x:Gr.Str,s2++[45]=x:=⟨_,rfl⟩
   have Ls3:s3.length<=40:=by rw[<-hs3];simp<;>omega
   have as3:=fun W=>zab s2 [45] (by first|omega| (simp<;>omega)) W
   rw[hs3]at as3;have Hs3:=hid hs3;clear hs3;obtain⟨s4,hs4⟩:∃x:Gr.Str,s3++pd=x:=⟨_,rfl⟩
   have Ls4:s4.length<=60:=by rw[<-hs4];simp<;>omega
   have as4:=fun W=>zab s3 pd (by first|omega| (simp<;>omega)) W
   rw[hs4]at as4;have Hs4:=hid hs4;clear hs4;refine zaa w0.heap.size w0 (by kernel_rfl) (by kernel_rfl) (Below.refl _ _) ?_
   iterate 17 (try go_big_quiet_step ((first| (with_reducible refine Calls.grow (GHPY.out _))| (with_reducible refine Calls.grow (GHPM.out _))| (with_reducible refine Calls.grow (GHPD.out _)))))
   refine wpQuiet_nil ?_;rintro _ ⟨wz,rfl⟩;go_wp2;go_meet;exact⟨s4,rfl,Ls4,hid ⟨by rw[HX.out,HEQ.out.1,<-Hs4.out,<-Hs3.out,<-Hs2.out,<-Hs1.out],wz.h⟩⟩
 case rest=>
 obtain⟨S,rfl,hS,HS⟩:=hcut;clear q0;have q0:wc.cell? ⟨gb,0,none⟩=some (.int .i64 sh):=(HB0.out.1.below HS.out.2 HB0.out.1.lt).cell 0;go_upto_region 4 with fail;obtain⟨wk,hwk⟩:∃wk,wk=wc:=⟨_,rfl⟩
 subst hwk;go_upto_if 25 with fail;go_cut [3] (fun s3 wx=>∃U:Gr.Str,s3=.string ⟨U.toArray⟩/\U.length<=61/\Hid (U=S++(if sh=3 then[84]else[])/\wx=wk))
 case first=>
  by_cases h3:sh=3
  ·have h3b:(sh==3)=true:=by simp[h3]
   have HX:Hid ((if sh=3 then([84]:Gr.Str)else[])=[84]):=hid (by rw[if_pos h3]);clear h3;obtain⟨s5,hs5⟩:∃x:Gr.Str,S++[84]=x:=⟨_,rfl⟩
   have Ls5:s5.length<=61:=by rw[<-hs5];simp<;>omega
   have as5:=fun W=>zab S [84] (by first|omega| (simp<;>omega)) W
   rw[hs5]at as5;have Hs5:=hid hs5;clear hs5;go_wp2;go_meet;exact⟨s5,rfl,Ls5,hid ⟨by rw[HX.out,Hs5.out],rfl⟩⟩
  ·have h3b:(sh==3)=false:=by simpa using h3
   have HX:Hid ((if sh=3 then([84]:Gr.Str)else[])=[]):=hid (by rw[if_neg h3]);clear h3;go_wp2;go_meet;exact⟨S,rfl,by omega,hid ⟨by rw[HX.out];simp,rfl⟩⟩
 case rest=>
 obtain⟨U,rfl,hU,HU⟩:=hcut;obtain⟨wm,hwm⟩:∃wm,wm=wc:=⟨_,rfl⟩
 subst hwm;have HBM:Hid (Below w0.heap.size w0 wm):=hid (by rw[HU.out.2];exact HS.out.2);clear q0;have q0:wm.cell? ⟨gb,0,none⟩=some (.int .i64 sh):=(HB0.out.1.below HBM.out HB0.out.1.lt).cell 0;go_upto_region 6 with fail;go_upto_if 30 with fail;go_cut [3] (fun s3 wx=>∃V:Gr.Str,s3=.string ⟨V.toArray⟩/\V.length<=160/\Hid (U++(if sh=1 then[]else clkS h mi c nanos)=V++nanoS nanos/\Below w0.heap.size w0 wx))
 case first=>
  by_cases h1:sh=1
  ·have h1b:(sh != 1)=false:=by simp[h1]
   have HX:Hid (U++(if sh=1 then[]else clkS h mi c nanos)=U++nanoS nanos):=hid (by rw[if_pos h1,HN0.out h1];rfl);clear h1;go_wp2;go_meet;exact⟨U,rfl,by omega,hid ⟨HX.out,HBM.out⟩⟩
  ·have h1b:(sh != 1)=true:=by simpa using h1
   have HX:Hid ((if sh=1 then[]else clkS h mi c nanos)=clkS h mi c nanos):=hid (by rw[if_neg h1]);clear h1;go_upto_region 7 with fail;clear q0;have p4:∀W:WB w0.heap.size w0,W.w.cell? ⟨gb,4,none⟩=some (.int .i64 (h:Int)):=fun W=>(HB0.out.1.below W.h HB0.out.1.lt).cell 4
   have p5:∀W:WB w0.heap.size w0,W.w.cell? ⟨gb,5,none⟩=some (.int .i64 (mi:Int)):=fun W=>(HB0.out.1.below W.h HB0.out.1.lt).cell 5
   have p6:∀W:WB w0.heap.size w0,W.w.cell? ⟨gb,6,none⟩=some (.int .i64 (c:Int)):=fun W=>(HB0.out.1.below W.h HB0.out.1.lt).cell 6
   obtain⟨s6,hs6⟩:∃x:Gr.Str,ph++[58]=x:=⟨_,rfl⟩
   have Ls6:s6.length<=20:=by rw[<-hs6];simp<;>omega
   have as6:=fun W=>zab ph [58] (by first|omega| (simp<;>omega)) W
   rw[hs6]at as6;have Hs6:=hid hs6;clear hs6;obtain⟨s7,hs7⟩:∃x:Gr.Str,s6++pi=x:=⟨_,rfl⟩
   have Ls7:s7.length<=30:=by rw[<-hs7];simp<;>omega
   have as7:=fun W=>zab s6 pi (by first|omega| (simp<;>omega)) W
   rw[hs7]at as7;have Hs7:=hid hs7;clear hs7;obtain⟨s8,hs8⟩:∃x:Gr.Str,s7++[58]=x:=⟨_,rfl⟩
   have Ls8:s8.length<=40:=by rw[<-hs8];simp<;>omega
   have as8:=fun W=>zab s7 [58] (by first|omega| (simp<;>omega)) W
   rw[hs8]at as8;have Hs8:=hid hs8;clear hs8;obtain⟨s9,hs9⟩:∃x:Gr.Str,s8++pc=x:=⟨_,rfl⟩
   have Ls9:s9.length<=60:=by rw[<-hs9];simp<;>omega
   have as9:=fun W=>zab s8 pc (by first|omega| (simp<;>omega)) W
   rw[hs9]at as9;have Hs9:=hid hs9;clear hs9;obtain⟨s10,hs10⟩:∃x:Gr.Str,U++s9=x:=⟨_,rfl⟩
   have Ls10:s10.length<=160:=by rw[<-hs10];simp<;>omega
   have as10:=fun W=>zab U s9 (by first|omega| (simp<;>omega)) W
   rw[hs10]at as10;have Hs10:=hid hs10;clear hs10;refine zaa w0.heap.size w0 (by kernel_rfl) (by kernel_rfl) HBM.out ?_
   iterate 19 (try go_big_quiet_step ((first| (with_reducible refine Calls.grow (GHPH.out _))| (with_reducible refine Calls.grow (GHPI.out _))| (with_reducible refine Calls.grow (GHPC.out _)))))
   refine wpQuiet_nil ?_;rintro _ ⟨wy,rfl⟩;go_wp2;go_meet;exact⟨s10,rfl,Ls10,hid ⟨by rw[HX.out,HEQ.out.2.1,<-Hs10.out,<-Hs9.out,<-Hs8.out,<-Hs7.out,<-Hs6.out];simp,wy.h⟩⟩
 case rest=>
 obtain⟨V,rfl,hV,HV⟩:=hcut;clear q0;have q9:wc.cell? ⟨gb,9,none⟩=some (.int .i64 (nanos:Int)):=(HB0.out.1.below HV.out.2 HB0.out.1.lt).cell 9;have HZ:Hid (∀W,Below w0.heap.size w0 W->Below w.heap.size w W):=hid (fun W hW=>by rw[HGB.out];exact HB0.out.2.1.trans (hW.mono (Nat.le_of_lt HB0.out.1.lt)));have HR1:Hid (r=V++nanoS nanos):=hid (by rw[<-HR0.out,<-HV.out.1,HU.out.1,HS.out.1]);by_cases hz:0<nanos
 ·have hzI:(0:Int)<(nanos:Int):=by omega
  have HTR:Hid (∀W,Calls prog 161 #[.string ⟨pn.toArray⟩,.string ⟨#[48]⟩] W fun e w'=>e=.returned (.string ⟨(trimZ pn).toArray⟩)/\w'=W):=hid (fun W=>strings_TrimRight_one ⟨pn.toArray⟩ 48 (by decide) W (by show pn.toArray.size<=_;simp;omega));have hfl:(trimZ pn).length<=9:=by unfold trimZ;rw[List.length_reverse];exact Nat.le_trans (List.dropWhile_sublist _).length_le (by rw[List.length_reverse];omega)
  obtain⟨f,hf⟩:=ex (trimZ pn)
  have HFE:=hid hf;rw[hf]at HTR hfl;clear hf;obtain⟨s11,hs11⟩:∃x:Gr.Str,[46]++f=x:=⟨_,rfl⟩
  have Ls11:s11.length<=20:=by rw[<-hs11];simp<;>omega
  have as11:=fun W=>zab [46] f (by first|omega| (simp<;>omega)) W
  rw[hs11]at as11;have Hs11:=hid hs11;clear hs11;obtain⟨s12,hs12⟩:∃x:Gr.Str,V++s11=x:=⟨_,rfl⟩
  have Ls12:s12.length<=200:=by rw[<-hs12];simp<;>omega
  have as12:=fun W=>zab V s11 (by first|omega| (simp<;>omega)) W
  rw[hs12]at as12;have Hs12:=hid hs12;clear hs12;have HE:Hid (r=s12):=hid (by rw[HR1.out,HEQ.out.2.2,if_neg (by omega),HFE.out,<-Hs12.out,<-Hs11.out];simp);have HPW:=hid (HPN.out wc (HUT.out ⟨wc,HV.out.2⟩));clear hz;go_wp2_with fail;refine HPW.out.mono ?_;rintro e w5 ⟨rfl,hb5⟩;have HB5:Hid (Below w0.heap.size w0 w5):=hid (HV.out.2.trans (hb5.mono HV.out.2.size));clear hb5 q9;go_wp2_with fail;refine(HTR.out _).mono ?_;rintro e w6 ⟨rfl,rfl⟩;go_wp2;go_ret;exact⟨by rw[HE.out]<;>rfl,HZ.out _ HB5.out⟩
 ·have hzI:¬(0:Int)<(nanos:Int):=by omega
  have HE:Hid (r=V):=hid (by rw[HR1.out,HEQ.out.2.2,if_pos (by omega)];simp);go_wp2;go_ret;exact⟨by rw[HE.out]<;>rfl,HZ.out _ HV.out.2⟩
theorem zr1 (y m d h mi c nanos:Nat) (zh zm z:Int) (hy:y<=9999) (hm:m<=99) (hd:d<=99) (hh:h<=99) (hmi:mi<=99) (hc:c<=99) (hn:nanos<=999999999) (hn0:nanos=0) (w:World) (hT:UT w):
 Calls prog 128 #[.agg #[.int .i64 1,.int .i64 (y:Int),.int .i64 (m:Int),.int .i64 (d:Int),.int .i64 (h:Int),.int .i64 (mi:Int),.int .i64 (c:Int),.int .i64 zh,.int .i64 zm,.int .i64 (nanos:Int),.int .u8 z]] w fun e w'=>e=.returned (.string ⟨((dateS y m d):Gr.Str).toArray⟩)/\Below w.heap.size w w':=by
 simpa using zeh 1 y m d h mi c nanos zh zm z hy hm hd hh hmi hc hn (fun _=>hn0) w hT
theorem zr2 (y m d h mi c nanos:Nat) (zh zm z:Int) (hy:y<=9999) (hm:m<=99) (hd:d<=99) (hh:h<=99) (hmi:mi<=99) (hc:c<=99) (hn:nanos<=999999999) (w:World) (hT:UT w):
 Calls prog 128 #[.agg #[.int .i64 2,.int .i64 (y:Int),.int .i64 (m:Int),.int .i64 (d:Int),.int .i64 (h:Int),.int .i64 (mi:Int),.int .i64 (c:Int),.int .i64 zh,.int .i64 zm,.int .i64 (nanos:Int),.int .u8 z]] w fun e w'=>e=.returned (.string ⟨((clkS h mi c nanos):Gr.Str).toArray⟩)/\Below w.heap.size w w':=by
 simpa using zeh 2 y m d h mi c nanos zh zm z hy hm hd hh hmi hc hn (by intro h;omega) w hT
theorem zm6 (y m d h mi c nanos:Nat) (zh zm z:Int) (hy:y<=9999) (hm:m<=99) (hd:d<=99) (hh:h<=99) (hmi:mi<=99) (hc:c<=99) (hn:nanos<=999999999) (w:World) (hT:UT w):
 Calls prog 128 #[.agg #[.int .i64 3,.int .i64 (y:Int),.int .i64 (m:Int),.int .i64 (d:Int),.int .i64 (h:Int),.int .i64 (mi:Int),.int .i64 (c:Int),.int .i64 zh,.int .i64 zm,.int .i64 (nanos:Int),.int .u8 z]] w fun e w'=>e=.returned (.string ⟨((dateS y m d++[84]++clkS h mi c nanos):Gr.Str).toArray⟩)/\Below w.heap.size w w':=by
 simpa using zeh 3 y m d h mi c nanos zh zm z hy hm hd hh hmi hc hn (by intro h;omega) w hT
theorem zg2 (date time zone:Bool) (y m d h mi c nanos off:Int) (late:Bool) (h0:0<=y) (h1:y<=9999) (h2:1<=m) (h3:m<=12) (h4:0<=d) (h5:d<=1000) (h6:0<=h) (h7:h<=1000) (h8:0<=mi) (h9:mi<=1000) (h10:0<=c) (h11:c<=1000) (h12:-1000000<=off) (h13:off<=1000000) (w:World):
 Calls prog 132 #[.agg #[.bool date,.bool time,.bool zone,.int .i64 y,.int .i64 m,.int .i64 d,.int .i64 h,.int .i64 mi,.int .i64 c,.int .i64 nanos,.int .i64 off,.bool late]] w fun e w'=>e=.returned (.int .i64 (86400*Cal.num y m d+3600*h+60*mi+c-off))/\Below w.heap.size w w':=by
 have HD:=Lib.hid (fun W=>zgv y m d h0 (by omega) h2 h3 h4 h5 W);have hb1:=Cal.zta y h0 (by omega);have hb2:=Cal.zte y m;have hn0:-800000<=Cal.num y m d:=by unfold Cal.num;omega
 have hn1:Cal.num y m d<=4000000:=by unfold Cal.num;omega
 obtain⟨q,hq⟩:=ex (Cal.num y m d)
 rw[hq]at HD hn0 hn1 ⊢;clear hb1 hb2 hq;go_enter func132,ntmps132;go_upto_region 1 with fail;obtain⟨gb,hgb⟩:=ex w.heap.size
 obtain⟨w0,hw0⟩:∃w0,w0=w.alloc (.cells #[.bool date,.bool time,.bool zone,.int .i64 y,.int .i64 m,.int .i64 d,.int .i64 h,.int .i64 mi,.int .i64 c,.int .i64 nanos,.int .i64 off,.bool late] 111):=⟨_,rfl⟩
 have HB0:Hid (Blk w0 gb 111 (T12 date time zone y m d h mi c nanos off late)/\Below gb w w0):=Lib.hid (by rw[hw0,<-hgb];exact⟨Blk.new _ _ _,(Below.refl _ _).alloc (Nat.le_refl _) _⟩);have HGB:=Lib.hid hgb;(try rw[<-hw0]);(try rw[hgb]);clear hw0 hgb;have p3:∀W:WB w0.heap.size w0,W.w.cell? ⟨gb,3,none⟩=some (.int .i64 y):=fun W=>(W.h.cell (p:=⟨gb,3,none⟩) HB0.out.1.lt).trans (HB0.out.1.cell 3)
 have p4:∀W:WB w0.heap.size w0,W.w.cell? ⟨gb,4,none⟩=some (.int .i64 m):=fun W=>(W.h.cell (p:=⟨gb,4,none⟩) HB0.out.1.lt).trans (HB0.out.1.cell 4)
 have p5:∀W:WB w0.heap.size w0,W.w.cell? ⟨gb,5,none⟩=some (.int .i64 d):=fun W=>(W.h.cell (p:=⟨gb,5,none⟩) HB0.out.1.lt).trans (HB0.out.1.cell 5)
 have p6:∀W:WB w0.heap.size w0,W.w.cell? ⟨gb,6,none⟩=some (.int .i64 h):=fun W=>(W.h.cell (p:=⟨gb,6,none⟩) HB0.out.1.lt).trans (HB0.out.1.cell 6)
 have p7:∀W:WB w0.heap.size w0,W.w.cell? ⟨gb,7,none⟩=some (.int .i64 mi):=fun W=>(W.h.cell (p:=⟨gb,7,none⟩) HB0.out.1.lt).trans (HB0.out.1.cell 7)
 have p8:∀W:WB w0.heap.size w0,W.w.cell? ⟨gb,8,none⟩=some (.int .i64 c):=fun W=>(W.h.cell (p:=⟨gb,8,none⟩) HB0.out.1.lt).trans (HB0.out.1.cell 8)
 have p10:∀W:WB w0.heap.size w0,W.w.cell? ⟨gb,10,none⟩=some (.int .i64 off):=fun W=>(W.h.cell (p:=⟨gb,10,none⟩) HB0.out.1.lt).trans (HB0.out.1.cell 10)
 have x1:IntKind.i64.wrap (86400*q)=86400*q:=IntWalk.i64_in _ (by omega);have x2:IntKind.i64.wrap (3600*h)=3600*h:=IntWalk.i64_in _ (by omega);have x3:IntKind.i64.wrap (86400*q+3600*h)=86400*q+3600*h:=IntWalk.i64_in _ (by omega);have x4:IntKind.i64.wrap (60*mi)=60*mi:=IntWalk.i64_in _ (by omega);have x5:IntKind.i64.wrap (86400*q+3600*h+60*mi)=86400*q+3600*h+60*mi:=IntWalk.i64_in _ (by omega);have x6:IntKind.i64.wrap (86400*q+3600*h+60*mi+c)=86400*q+3600*h+60*mi+c:=IntWalk.i64_in _ (by omega);have x7:IntKind.i64.wrap (86400*q+3600*h+60*mi+c-off)=86400*q+3600*h+60*mi+c-off:=IntWalk.i64_in _ (by omega);refine zaa w0.heap.size w0 (by kernel_rfl) (by kernel_rfl) (Below.refl _ _) ?_
 iterate 23 (try go_big_quiet_step ((with_reducible refine Calls.grow ((HD.out _).mono (fun _ _ ⟨e1,e2⟩=>⟨e1,e2▸WB.h _⟩)))))
 refine wpQuiet_nil ?_;rintro _ ⟨wz,rfl⟩;clear p3 p4 p5 p6 p7 p8 p10;go_wp2;go_ret;rw[HGB.out];exact⟨rfl,HB0.out.2.trans (wz.h.mono (Nat.le_of_lt HB0.out.1.lt))⟩
end Go.Proofs.YtoigpackhninoaaGreatDoor

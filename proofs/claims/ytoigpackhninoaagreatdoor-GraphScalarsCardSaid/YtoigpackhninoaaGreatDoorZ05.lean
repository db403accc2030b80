import Derived.Test.YtoigpackhninoaaGreatDoorGr
import Derived.Test.YtoigpackhninoaaGreatDoorZ01
namespace Go.Proofs.YtoigpackhninoaaGreatDoor
open _root_.Go.Proofs.Tryz
open _root_.Go.Lib (hid)
set_option maxRecDepth 100000
set_option maxHeartbeats 16000000
namespace Utf
abbrev Str:=List UInt8
def dec (r:Str):Nat×Nat:=
 let b (k:Nat):Nat:=(r.getD k 0).toNat;let cont (k:Nat):Bool:=k<r.length && b k /64==2
 if b 0<0x80 then(b 0,1)
 else if b 0 /32==6 && cont 1 then
  let c:=(b 0%32)*64+b 1%64
  if c>=0x80 then(c,2)else(65533,1)
 else if b 0 /16==14 && cont 1 && cont 2 then
  let c:=(b 0%16)*4096+(b 1%64)*64+b 2%64
  if c>=0x800 && Utf8.valid c then(c,3)else(65533,1)
 else if b 0 /8==30 && cont 1 && cont 2 && cont 3 then
  let c:=(b 0%8)*262144+(b 1%64)*4096+(b 2%64)*64+b 3%64
  if c>=0x10000 && Utf8.valid c then(c,4)else(65533,1)
 else(65533,1)
theorem zob (s:Str) (j:Nat):((⟨s.toArray⟩:ByteArray).get! j)=s.getD j 0:=by
 show(s.toArray)[j]! =_;rw[List.getElem!_toArray,List.getElem!_eq_getElem?_getD,List.getD_eq_getElem?_getD];rfl
theorem zq0 (s:Str) (i:Nat):Utf8.decode ⟨s.toArray⟩ i=dec (s.drop i):=by
 have hb:∀k,(⟨s.toArray⟩:ByteArray).get! (i+k)=(s.drop i).getD k 0:=by
  intro k;rw[zob,List.getD_eq_getElem?_getD,List.getD_eq_getElem?_getD,List.getElem?_drop]
 have hs:(⟨s.toArray⟩:ByteArray).size=s.length:=by simp[ByteArray.size]
 have hc:∀k,decide (i+k<(⟨s.toArray⟩:ByteArray).size)=decide (k<(s.drop i).length):=by
  intro k;rw[hs,List.length_drop,decide_eq_decide];omega
 unfold Utf8.decode dec;simp only[hb,hc,Utf8.runeError]
def badU:Nat->Str->Nat->Option Nat
 | 0,_,_=>none
 |n+1,r,i=>match r with
  | []=>none
  |_::_=>if(dec r).1=65533/\(dec r).2=1 then some i else badU n (r.drop (dec r).2) (i+(dec r).2)
def bad (s:Str):Option Nat:=badU s.length s 0
theorem zf9 (r:Str):1<=(dec r).2/\(dec r).2<=4:=by
 unfold dec;simp only
 repeat' split
 all_goals (constructor<;>simp)
theorem zq1 (r:Str) (h:r≠[]):(dec r).2<=r.length:=by
 have h0:0<r.length:=List.length_pos_iff.2 h;unfold dec;simp only
 repeat' split
 all_goals (simp_all<;>omega)
theorem zlc (n m:Nat) (r:Str) (i:Nat) (hn:r.length<=n) (hm:r.length<=m):badU n r i=badU m r i:=by
 induction n generalizing m r i with
 |zero=>
  have:r=[]:=List.eq_nil_of_length_eq_zero (by omega);subst this;cases m<;>rfl
 |succ n ih=>
  cases r with
  |nil=>cases m<;>rfl
  |cons c q=>
   cases m with
   |zero=>simp at hm
   |succ m=>
    have hw:=zf9 (c::q);unfold badU;simp only;split
    ·rfl
    ·exact ih m _ _ (by simp at hn ⊢;omega) (by simp at hm ⊢;omega)
theorem zud (r:Str):r≠[]->(dec r).2<=r.length:=fun h=>zq1 r h
def badR (r:Str) (i:Nat):Option Nat:=badU r.length r i
theorem zst (r:Str) (i d n:Nat) (hr:r≠[]) (h:dec r=(d,n)):badR r i=if d=65533/\n=1 then some i else badR (r.drop n) (i+n):=by
 cases r with
 |nil=>exact absurd rfl hr
 |cons c q=>
  unfold badR;show badU (q.length+1) (c::q) i=_;rw[show badU (q.length+1) (c::q) i=if(dec (c::q)).1=65533/\(dec (c::q)).2=1 then some i else badU q.length ((c::q).drop (dec (c::q)).2) (i+(dec (c::q)).2)from rfl,h];split
  ·rfl
  ·have h1:=(zf9 (c::q)).1;rw[h]at h1;have h1:1<=n:=h1;refine zlc _ _ _ _ ?_ (Nat.le_refl _);rw[List.length_drop,List.length_cons];omega
end Utf
open Go.RowKit
theorem zfd (s:Utf.Str) (a:Nat):(⟨s.toArray⟩:ByteArray).extract a s.length=⟨(s.drop a).toArray⟩:=by
 rw[zan,List.take_of_length_le (by simp)]
def ckVal (o:Option Nat):Value:=match o with
 |some i=>.tuple #[.int .i64 (i:Nat),.int .i64 11]
 |none=>.tuple #[.int .i64 (-1),.int .i64 0]
theorem zc6 {B:Nat} {w w':World} (h:Lib.Utf8Tabs 1 2 w) (hb:Below B w w') (hB:3<=B):Lib.Utf8Tabs 1 2 w':=
 ⟨fun c hc=>(hb.cell (by simp;omega)).trans (h.1 c hc),fun i hi=>⟨(hb.cell (by simp;omega)).trans (h.2 i hi).1,(hb.cell (by simp;omega)).trans (h.2 i hi).2⟩⟩
theorem zd2 (s:Utf.Str) (pos d n:Nat) (h:pos<s.length) (hd:Utf.dec (s.drop pos)=(d,n)) (W:World) (hT:Lib.Utf8Tabs 1 2 W):
 Calls prog 91 #[.string ((⟨s.toArray⟩:ByteArray).extract pos s.length)] W fun e w'=>e=.returned (.tuple #[.int .i32 d,.int .i64 n])/\Below W.heap.size W w':=by
 have e0:(⟨s.toArray⟩:ByteArray).extract pos s.length=⟨(s.drop pos).toArray⟩:=by
  rw[zfd]
 rw[e0];refine(utf8_DecodeRuneInString _ W hT).mono ?_;rintro e w' ⟨rfl,hb⟩;have e1:Lib.decodeGo ⟨(s.drop pos).toArray⟩=(d,n):=by
  unfold Lib.decodeGo;rw[if_neg (by simp[ByteArray.size];omega),Utf.zq0,List.drop_zero,hd]
 rw[e1];exact⟨rfl,hb⟩
theorem zfe (s:Utf.Str) (hs:s.length<=1073741823) (w:World) (hT:Lib.Utf8Tabs 1 2 w) (hw:3<=w.heap.size) (v:Value) (hv:ckVal (Utf.bad s)=v):
 Calls prog 72 #[.string ⟨s.toArray⟩] w fun e w'=>e=.returned v/\Below w.heap.size w w':=by
 have HV:=hid hv;have HT:=hid hT;clear hv hT;go_enter func72,ntmps72;go_wp2_with fail;go_loopw [10] (fun x wr=>∃pos:Nat,pos<=s.length/\wr.heap[w.heap.size]? =some (.stringIter ⟨s.toArray⟩ pos)/\Below w.heap.size w wr/\Hid (Utf.bad s=Utf.badR (s.drop pos) pos)) (fun _ wr=>s.length-wr.iterPos w.heap.size)
 case atStart=>exact⟨0,by omega,World.iter_heap w _ 0,(Below.refl _ _).alloc (Nat.le_refl _) _,hid rfl⟩
 case round=>
  obtain⟨pos,hp,hk,hb,HC⟩:=hrel;have HK:=hid hk;have HBW:=hid hb;by_cases hlt:pos<s.length
  ·obtain⟨d,n,hd⟩:∃d n,Utf.dec (s.drop pos)=(d,n):=⟨_,_,rfl⟩
   have hne:s.drop pos≠[]:=by intro e;have:=congrArg List.length e;simp at this;omega
   have hwd:=Utf.zf9 (s.drop pos);have hle:=Utf.zud (s.drop pos) hne;rw[hd]at hwd hle;have hstep:=Utf.zst (s.drop pos) pos d n hne hd;rw[List.drop_drop]at hstep;have hn1:1<=n:=hwd.1;have hn2:pos+n<=s.length:=by have:n<=(s.drop pos).length:=hle;simp at this;omega
   have hnx:∀ty,(Instr.next (.pointer (some ⟨w.heap.size,0,none⟩)) true ty).run prog wr=.ok (.tuple #[.bool true,.int .i64 pos,.int .i32 d]) (wr.iterAt w.heap.size ⟨s.toArray⟩ (pos+n)):=by
    intro ty;rw[Lib.run_next_any_at wr w.heap.size ⟨s.toArray⟩ pos ty hk (by simp[ByteArray.size];omega),Utf.zq0,hd]
   obtain⟨w2,hw2⟩:=ex (wr.iterAt w.heap.size ⟨s.toArray⟩ (pos+n))
   have hk2:w2.heap[w.heap.size]? =some (.stringIter ⟨s.toArray⟩ (pos+n)):=by rw[<-hw2];exact Lib.iterAt_heap wr _ _ pos _ hk
   have hb2:Below w.heap.size w w2:=by rw[<-hw2];exact Lib.below_iterAt hb (Nat.le_refl _) _ _
   rw[hw2]at hnx;have HK2:=hid hk2;have HB2:=hid hb2;have HST:=hid hstep;have HD:=hid hd;have hsz:w.heap.size<w2.heap.size:=(Array.getElem?_eq_some_iff.1 hk2).1;have hpI:(pos:Int)<=(s.length:Int):=by omega
   have HME:Hid (wr.iterPos w.heap.size=pos):=hid (iterPos_of hk);clear hw2 hk2 hb2 hstep hd hwd hle hne hk hb;by_cases h65:d=65533
   ·have k1:(d:Int)=65533:=by omega
    have HDD:Hid (Utf.dec (s.drop pos)=(65533,n)):=hid (by rw[HD.out,h65]);by_cases hn:n=1
    ·have HX:Hid (ckVal (some pos)=v):=hid (by rw[<-HV.out,HC.out,HST.out,if_pos ⟨h65,hn⟩]);have k2:(n:Int)=1:=by omega
     clear h65 hn;go_wp2_with fail;refine(zd2 s pos 65533 n hlt HDD.out _ (zc6 HT.out HB2.out hw)).mono ?_;rintro e w3 ⟨rfl,hb3⟩;have HB3:Hid (Below w.heap.size w w3):=hid (HB2.out.trans (hb3.mono HB2.out.size));clear hb3;go_wp2_with fail;(try refine bodyPost_ret (v:=.tuple #[.int .i64 pos,.int .i64 11]) (by simp[results,results72,go_sem]) rfl ?_);exact⟨by rw[<-HX.out];rfl,HB3.out⟩
    ·have HX:Hid (Utf.bad s=Utf.badR (s.drop (pos+n)) (pos+n)):=hid (by rw[HC.out,HST.out,if_neg (by simp[hn])]);have k2:¬((n:Int)=1):=by omega
     have k2b:((n:Int)==1)=false:=by simpa using k2
     clear h65 hn;go_wp2_with fail;refine(zd2 s pos 65533 n hlt HDD.out _ (zc6 HT.out HB2.out hw)).mono ?_;rintro e w3 ⟨rfl,hb3⟩;have HB3:Hid (Below w.heap.size w w3):=hid (HB2.out.trans (hb3.mono HB2.out.size));have HK3:Hid (w3.heap[w.heap.size]? =some (.stringIter ⟨s.toArray⟩ (pos+n))):=hid ((hb3.block _ hsz).trans HK2.out);clear hb3;go_wp2;go_roundw
     case rel=>exact⟨pos+n,hn2,HK3.out,HB3.out,HX⟩
     case measure=>rw[iterPos_of HK3.out,HME.out];omega
   ·have k1:¬((d:Int)=65533):=by omega
    have k1b:((d:Int)==65533)=false:=by simpa using k1
    have HX:Hid (Utf.bad s=Utf.badR (s.drop (pos+n)) (pos+n)):=hid (by rw[HC.out,HST.out,if_neg (by simp[h65])]);go_wp2;go_roundw
    case rel=>exact⟨pos+n,hn2,HK2.out,HB2.out,HX⟩
    case measure=>rw[iterPos_of HK2.out,HME.out];omega
  ·have hnx:∀ty,(Instr.next (.pointer (some ⟨w.heap.size,0,none⟩)) true ty).run prog wr=.ok (.tuple #[.bool false]) wr:=fun ty=>Lib.run_next_end_at wr w.heap.size ⟨s.toArray⟩ pos ty hk (by simp[ByteArray.size];omega)
   have HX:Hid (ckVal none=v):=hid (by rw[<-HV.out,HC.out,List.drop_eq_nil_of_le (by omega)];rfl);clear hk hb;go_wp2_with fail;(try refine bodyPost_ret (v:=.tuple #[.int .i64 (-1),.int .i64 0]) (by simp[results,results72,go_sem]) rfl ?_);exact⟨by rw[<-HX.out];rfl,HBW.out⟩
namespace Cal
def leapB (y:Int):Bool:=(y.tmod 4==0) && (!(y.tmod 100==0) || (y.tmod 400==0))
def lp (y:Int):Int:=if leapB y=true then 1 else 0
def dim (y m:Int):Int:=if m=2 then 28+lp y else if m=4\/m=6\/m=9\/m=11 then 30 else 31
def tbl (m:Int):Int:=if m<=3 then 59 else if m<=4 then 90 else if m<=5 then 120 else if m<=6 then 151 else if m<=7 then 181 else if m<=8 then 212 else if m<=9 then 243 else if m<=10 then 273 else if m<=11 then 304 else if m<=12 then 334 else 365
def cum (y m:Int):Int:=if m<=1 then 0 else if m<=2 then 31 else tbl m+lp y
def fst (y:Int):Int:=365*y+(y+3) /4-(y+99) /100+(y+399) /400
def num (y m d:Int):Int:=fst y+cum y m+d-1-719528
def vld (y m d:Int):Bool:=decide (0<=y) && decide (y<=9999) && decide (1<=m) && decide (m<=12) && decide (1<=d) && decide (d<=dim y m)
theorem zs9 (y:Int):0<=lp y/\lp y<=1:=by unfold lp;split<;>omega
theorem zma (y:Int) (h:0<=y):leapB y=true↔(y%4=0/\(y%100≠0\/y%400=0)):=by
 unfold leapB;rw[Int.tmod_eq_emod_of_nonneg h,Int.tmod_eq_emod_of_nonneg h,Int.tmod_eq_emod_of_nonneg h];simp
theorem ziw (y:Int) (h:0<=y):fst (y+1)=fst y+365+lp y:=by
 unfold lp;have hl:=zma y h;unfold fst;by_cases c:leapB y=true
 ·grind
 ·grind
theorem zix (a b:Int) (_h0:0<=a) (h:a<=b):fst a+365*(b-a)<=fst b:=by unfold fst;omega
theorem zta (a:Int) (h0:0<=a) (h:a<=10000):0<=fst a/\fst a<=3652425:=by unfold fst;omega
theorem ztb (n:Int) (h0:0<=n):fst (n /366)<=n:=by unfold fst;omega
theorem zmb:fst 10000=3652425:=by decide
theorem ztc (y m:Int):28<=dim y m/\dim y m<=31:=by
 have:=zs9 y;unfold dim;split
 ·omega
 ·split<;>omega
theorem zt1 (y:Int):cum y 1=0:=rfl
theorem zfu (y m:Int) (h1:1<=m) (h2:m<=12):cum y (m+1)=cum y m+dim y m:=by
 have hc:m=1\/m=2\/m=3\/m=4\/m=5\/m=6\/m=7\/m=8\/m=9\/m=10\/m=11\/m=12:=by omega
 rcases hc with rfl|rfl|rfl|rfl|rfl|rfl|rfl|rfl|rfl|rfl|rfl|rfl<;>simp[cum,dim,tbl]<;>omega
theorem ztd (m:Int):59<=tbl m/\tbl m<=365:=by
 unfold tbl
 iterate 10 (split;decide)
 decide
theorem zte (y m:Int):0<=cum y m/\cum y m<=366:=by
 have:=zs9 y;have:=ztd m;unfold cum;split
 ·omega
 ·split<;>omega
theorem ztf (y:Int):cum y 13=365+lp y:=rfl
theorem ziy (y a b:Int) (h1:1<=a) (h:a<=b) (h2:b<=13):cum y a<=cum y b:=by
 have hh:∀k:Nat,∀a:Int,1<=a->a+k<=13->cum y a<=cum y (a+k):=by
  intro k
  induction k with
  |zero=>intro a _ _;simp
  |succ k ih=>
   intro a h1 h2;have h3:=ih a h1 (by omega);have h4:=zfu y (a+k) (by omega) (by omega);have:=ztc y (a+k);rw[show a+((k+1:Nat):Int)=a+k+1 from by omega];omega
 have:=hh (b-a).toNat a h1 (by omega);rwa[show a+((b-a).toNat:Int)=b from by omega]at this
theorem zue {y m d:Int} (h:0<=y/\y<=9999/\1<=m/\m<=12/\1<=d/\d<=dim y m):vld y m d=true:=by
 simp[vld];omega
theorem zmc {y m d:Int} (h:vld y m d=true):0<=y/\y<=9999/\1<=m/\m<=12/\1<=d/\d<=dim y m:=by
 simp[vld]at h;omega
theorem zht {y m d:Int} (h1:1<=m) (h2:m<=12) (h3:1<=d) (h4:d<=dim y m):0<=cum y m+d-1/\cum y m+d-1<365+lp y:=by
 have:=zte y m;have:=zfu y m h1 h2;have h5:=ziy y (m+1) 13 (by omega) (by omega) (by omega);rw[ztf]at h5;omega
theorem zqf {y m d y' m' d':Int} (h:vld y m d=true) (h':vld y' m' d'=true) (hl:y<y'\/y=y'/\(m<m'\/m=m'/\d<d')):num y m d<num y' m' d':=by
 have a:=zmc h;have b:=zmc h';have ia:=zht (y:=y) (m:=m) (d:=d) (by omega) (by omega) (by omega) (by omega);have ib:=zht (y:=y') (m:=m') (d:=d') (by omega) (by omega) (by omega) (by omega);unfold num;rcases hl with hl|⟨rfl,hl|⟨rfl,hl⟩⟩
 ·have h1:=ziw y (by omega);have h2:=zix (y+1) y' (by omega) (by omega);omega
 ·have h1:=zfu y m (by omega) (by omega);have h2:=ziy y (m+1) m' (by omega) (by omega) (by omega);omega
 ·omega
theorem zt2 {y m d y' m' d':Int} (h:vld y m d=true) (h':vld y' m' d'=true) (hn:num y m d=num y' m' d'):y=y'/\m=m'/\d=d':=by
 by_cases c1:y<y'\/y=y'/\(m<m'\/m=m'/\d<d')
 ·have:=zqf h h' c1;omega
 ·by_cases c2:y'<y\/y'=y/\(m'<m\/m'=m/\d'<d)
  ·have:=zqf h' h c2;omega
  ·omega
theorem zuf {y m d:Int} (h:vld y m d=true):-719528<=num y m d/\num y m d<=2932896:=by
 have a:=zmc h;have ia:=zht (y:=y) (m:=m) (d:=d) (by omega) (by omega) (by omega) (by omega);have h1:=ziw y (by omega);have h2:=zix (y+1) 10000 (by omega) (by omega);have h3:=zta y (by omega) (by omega);rw[zmb]at h2;unfold num;omega
end Cal
namespace Gr
def numAt (s:List UInt8) (a n:Nat):Option Nat:=if a+n<=s.length/\((s.drop a).take n).all dig=true then some (val ((s.drop a).take n))else none
def isAt (s:List UInt8) (a:Nat) (c:UInt8):Bool:=s[a]? ==some c
def dateAt (s:List UInt8):Option (Nat×Nat×Nat):=
 match numAt s 0 4,numAt s 5 2,numAt s 8 2 with
 |some y,some m,some d=>if(isAt s 4 45 && isAt s 7 45)=true then some (y,m,d)else none
 |_,_,_=>none
structure Ck where
 h:Nat
 m:Nat
 s:Nat
 nanos:Nat
 stop:Nat
def clockAt (s:List UInt8) (a:Nat):Option Ck:=
 match numAt s a 2,numAt s (a+3) 2,numAt s (a+6) 2 with
 |some h,some m,some c=>
  if(isAt s (a+2) 58 && isAt s (a+5) 58)=true then
   if isAt s (a+8) 46=true then
    if((s.drop (a+9)).takeWhile dig).length=0\/9<((s.drop (a+9)).takeWhile dig).length then none
    else some ⟨h,m,c,val ((s.drop (a+9)).takeWhile dig)*10 ^ (9-((s.drop (a+9)).takeWhile dig).length),a+9+((s.drop (a+9)).takeWhile dig).length⟩
   else some ⟨h,m,c,0,a+8⟩
  else none
 |_,_,_=>none
structure Zn where
 z:UInt8
 h:Nat
 m:Nat
 stop:Nat
def zoneAt (s:List UInt8) (a:Nat):Option Zn:=
 if isAt s a 90=true then some ⟨90,0,0,a+1⟩
 else match numAt s (a+1) 2,numAt s (a+4) 2 with
  |some h,some m=>if((isAt s a 43 || isAt s a 45) && isAt s (a+3) 58)=true then some ⟨s.getD a 0,h,m,a+6⟩else none
  |_,_=>none
structure Mo where
 date:Bool
 time:Bool
 y:Nat
 m:Nat
 d:Nat
 h:Nat
 mi:Nat
 c:Nat
 nanos:Nat
 z:UInt8
 zh:Nat
 zm:Nat
def rd (s:List UInt8):Option Mo:=
 match dateAt s with
 |none=>match clockAt s 0 with
  |some k=>if k.stop=s.length then some ⟨false,true,0,0,0,k.h,k.m,k.s,k.nanos,0,0,0⟩else none
  |none=>none
 |some (y,m,d)=>
  if s.length=10 then some ⟨true,false,y,m,d,0,0,0,0,0,0,0⟩
  else if(isAt s 10 84 || isAt s 10 32)=true then match clockAt s 11 with
   |none=>none
   |some k=>if k.stop=s.length then some ⟨true,true,y,m,d,k.h,k.m,k.s,k.nanos,0,0,0⟩
    else match zoneAt s k.stop with
     |some z=>if z.stop=s.length then some ⟨true,true,y,m,d,k.h,k.m,k.s,k.nanos,z.z,z.h,z.m⟩else none
     |none=>none
  else none
def okR (x:Mo):Bool:=(!x.date || Cal.vld x.y x.m x.d) && decide (x.h<=23) && decide (x.mi<=59) && decide (x.c<=59) && decide (x.zh<=23) && decide (x.zm<=59)
def offS (x:Mo):Int:=if x.z=45 then -((3600*x.zh+60*x.zm:Nat):Int)else((3600*x.zh+60*x.zm:Nat):Int)
def secs (x:Mo):Int:=Cal.num x.y x.m x.d*86400+(3600*x.h+60*x.mi+x.c:Nat)-offS x
def pd:Nat->Nat->List UInt8
 | 0,_=>[]
 |w+1,x=>pd w (x /10)++[ch (x%10)]
theorem zax (w x:Nat):(pd w x).length=w:=by
 induction w generalizing x with
 |zero=>rfl
 |succ w ih=>unfold pd;rw[List.length_append,ih];rfl
theorem zov (w x:Nat):pd (w+1) x=ch (x /10 ^ w%10)::pd w x:=by
 induction w generalizing x with
 |zero=>simp[pd]
 |succ w ih=>
  rw[pd,ih,List.cons_append];rw[show pd (w+1) x=pd w (x /10)++[ch (x%10)]from rfl,Nat.div_div_eq_div_mul,Nat.pow_succ,Nat.mul_comm 10]
theorem zmd (w:Nat):pd w 0=List.replicate w 48:=by
 induction w with
 |zero=>rfl
 |succ w ih=>rw[pd,Nat.zero_div,ih,List.replicate_succ'];rfl
theorem zqg (w x:Nat) (hw:1<=w) (hx:x<10 ^ w):List.replicate (w-(Lib.decDigits x).length) 48++Lib.decDigits x=pd w x:=by
 induction w generalizing x with
 |zero=>omega
 |succ w ih=>
  by_cases h:x<10
  ·rw[Lib.decDigits_one h,pd,show x /10=0 from by omega,zmd,show x%10=x from by omega];rfl
  ·rcases Nat.eq_zero_or_pos w with h0|h0
   ·subst h0;simp at hx;omega
   ·have h1:=ih (x /10) h0 (by rw[Nat.pow_succ]at hx;omega);rw[zaq h,pd,<-h1,List.length_append,List.append_assoc]
    congr 2
    simp
def trimZ (l:List UInt8):List UInt8:=(l.reverse.dropWhile (fun c=>c==48)).reverse
def nanoS (n:Nat):List UInt8:=if n=0 then[]else 46::trimZ (pd 9 n)
def dateS (y m d:Nat):List UInt8:=pd 4 y++45::(pd 2 m++45::pd 2 d)
def clkS (h m s n:Nat):List UInt8:=pd 2 h++58::(pd 2 m++58::(pd 2 s++nanoS n))
def locS (x:Mo):List UInt8:=(if x.date=true then dateS x.y x.m x.d else[])++((if(x.date && x.time)=true then[84]else[])++(if x.time=true then clkS x.h x.mi x.c x.nanos else[]))
theorem zj3 (w:Nat):trimZ (List.replicate w 48)=[]:=by
 unfold trimZ;rw[List.reverse_replicate]
 induction w with
 |zero=>rfl
 |succ w ih=>rw[List.replicate_succ,List.dropWhile_cons,if_pos (by decide)];exact ih
theorem ze3 (l:List UInt8) (c:UInt8):trimZ (l++[c])=if c=48 then trimZ l else l++[c]:=by
 unfold trimZ;rw[List.reverse_append,List.reverse_cons,List.reverse_nil,List.nil_append,List.singleton_append,List.dropWhile_cons];by_cases h:c=48
 ·grind
 ·grind
theorem zme (w x:Nat) (hx:x<10 ^ w) (h:0<x):trimZ (pd w x)≠[]:=by
 induction w generalizing x with
 |zero=>simp at hx;omega
 |succ w ih=>
  rw[pd,ze3];split
  ·rename_i hc;have h1:=congrArg dv hc;rw[zq9 _ (by omega)]at h1;have h2:x%10=0:=h1;exact ih (x /10) (by rw[Nat.pow_succ]at hx;omega) (by omega)
  ·simp
noncomputable def dateOf (n:Int):Nat×Nat×Nat:=
 open Classical in if h:∃t:Nat×Nat×Nat,Cal.vld t.1 t.2.1 t.2.2=true/\Cal.num t.1 t.2.1 t.2.2=n then h.choose else(0,0,0)
theorem zgr {n:Int} {y m d:Nat} (hv:Cal.vld y m d=true) (hn:Cal.num y m d=n):dateOf n=(y,m,d):=by
 have h:∃t:Nat×Nat×Nat,Cal.vld t.1 t.2.1 t.2.2=true/\Cal.num t.1 t.2.1 t.2.2=n:=⟨(y,m,d),hv,hn⟩
 unfold dateOf;rw[dif_pos h];obtain⟨h1,h2⟩:=h.choose_spec;obtain⟨a,b,c⟩:=Cal.zt2 h1 hv (h2.trans hn.symm);apply Prod.ext
 ·exact Int.ofNat.inj a
 ·grind
noncomputable def momS (day:Int) (r nanos:Nat):List UInt8:=
 dateS (dateOf day).1 (dateOf day).2.1 (dateOf day).2.2++84::(clkS (r /3600) (r /60%60) (r%60) nanos++[90])
noncomputable def insP (s:List UInt8):List UInt8×Nat:=
 match rd s with
 |none=>([],3)
 |some x=>if x.z=0 then([],3)else if okR x=false then([],13)
  else if secs x< -62167219200\/253402300800<=secs x then([],13)else(momS (secs x /86400) (secs x%86400).toNat x.nanos,0)
def locP (s:List UInt8):List UInt8×Nat:=
 match rd s with
 |none=>([],3)
 |some x=>if x.z≠0 then([],3)else if okR x=false then([],13)else(locS x,0)
noncomputable def insB (s:List UInt8):Bool:=decide ((insP s).2=0/\(insP s).1=s)
def locB (s:List UInt8):Bool:=decide ((locP s).2=0/\(locP s).1=s)
end Gr
end Go.Proofs.YtoigpackhninoaaGreatDoor

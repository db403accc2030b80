import Derived.Test.YtpgmfihonmoliaaGreatDoorZ01
namespace Go.Proofs.YtpgmfihonmoliaaGreatDoor
open _root_.Go.Proofs.Tryz
open _root_.Go.Lib (hid)
set_option maxRecDepth 100000
set_option maxHeartbeats 16000000
namespace Utf
abbrev Str:=List UInt8
def dec (r:Str):Nat×Nat:=
 let b (k:Nat):Nat:=(r.getD k 0).toNat;let cont (k:Nat):Bool:=k<r.length && b k /64==2
 if b 0<0x80 then(b 0,1)
 else if b 0 /32==6 && cont 1 then
  let c:=(b 0%32)*64+b 1%64
  if c>=0x80 then(c,2)else(65533,1)
 else if b 0 /16==14 && cont 1 && cont 2 then
  let c:=(b 0%16)*4096+(b 1%64)*64+b 2%64
  if c>=0x800 && Utf8.valid c then(c,3)else(65533,1)
 else if b 0 /8==30 && cont 1 && cont 2 && cont 3 then
  let c:=(b 0%8)*262144+(b 1%64)*4096+(b 2%64)*64+b 3%64
  if c>=0x10000 && Utf8.valid c then(c,4)else(65533,1)
 else(65533,1)
theorem zr7 (s:Str) (j:Nat):((⟨s.toArray⟩:ByteArray).get! j)=s.getD j 0:=by
 show(s.toArray)[j]! =_;rw[List.getElem!_toArray,List.getElem!_eq_getElem?_getD,List.getD_eq_getElem?_getD];rfl
theorem zu9 (s:Str) (i:Nat):Utf8.decode ⟨s.toArray⟩ i=dec (s.drop i):=by
 have b:∀k,(⟨s.toArray⟩:ByteArray).get! (i+k)=(s.drop i).getD k 0:=by
  intro k;rw[zr7,List.getD_eq_getElem?_getD,List.getD_eq_getElem?_getD,List.getElem?_drop]
 have c:(⟨s.toArray⟩:ByteArray).size=s.length:=by simp[ByteArray.size]
 have a:∀k,decide (i+k<(⟨s.toArray⟩:ByteArray).size)=decide (k<(s.drop i).length):=by
  intro k;rw[c,List.length_drop,decide_eq_decide];omega
 unfold Utf8.decode dec;simp only[b,a,Utf8.runeError]
def badU:Nat->Str->Nat->Option Nat
 | 0,_,_=>none
 |n+1,r,i=>match r with
  | []=>none
  |_::_=>if(dec r).1=65533/\(dec r).2=1 then some i else badU n (r.drop (dec r).2) (i+(dec r).2)
def bad (s:Str):Option Nat:=badU s.length s 0
theorem zhm (r:Str):1<=(dec r).2/\(dec r).2<=4:=by
 unfold dec;simp only
 repeat' split
 all_goals (constructor<;>simp)
theorem dec_len (r:Str) (h:r≠[]):(dec r).2<=r.length:=by
 have h0:0<r.length:=List.length_pos_iff.2 h;unfold dec;simp only
 repeat' split
 all_goals (simp_all<;>omega)
theorem zn6 (n m:Nat) (r:Str) (i:Nat) (hn:r.length<=n) (hm:r.length<=m):badU n r i=badU m r i:=by
 induction n generalizing m r i with
 |zero=>
  have:r=[]:=List.eq_nil_of_length_eq_zero (by omega);subst this;cases m<;>rfl
 |succ n ih=>
  cases r with
  |nil=>cases m<;>rfl
  |cons c q=>
   cases m with
   |zero=>simp at hm
   |succ m=>
    have hw:=zhm (c::q);unfold badU;simp only;split
    .rfl
    .exact ih m _ _ (by simp at hn ⊢;omega) (by simp at hm ⊢;omega)
theorem zy8 (r:Str):r≠[]->(dec r).2<=r.length:=fun h=>dec_len r h
def badR (r:Str) (i:Nat):Option Nat:=badU r.length r i
theorem zxe (r:Str) (i d n:Nat) (hr:r≠[]) (h:dec r=(d,n)):badR r i=if d=65533/\n=1 then some i else badR (r.drop n) (i+n):=by
 cases r with
 |nil=>exact absurd rfl hr
 |cons c q=>
  unfold badR;show badU (q.length+1) (c::q) i=_;rw[show badU (q.length+1) (c::q) i=if(dec (c::q)).1=65533/\(dec (c::q)).2=1 then some i else badU q.length ((c::q).drop (dec (c::q)).2) (i+(dec (c::q)).2)from rfl,h];split
  .rfl
  .have a:=(zhm (c::q)).1;rw[h]at a;have a:1<=n:=a;refine zn6 _ _ _ _ ?_ (Nat.le_refl _);rw[List.length_drop,List.length_cons];omega
end Utf
open Go.RowKit
theorem zgf (s:Utf.Str) (a:Nat):(⟨s.toArray⟩:ByteArray).extract a s.length=⟨(s.drop a).toArray⟩:=by
 rw[zau,List.take_of_length_le (by simp)]
def ckVal (o:Option Nat):Value:=match o with
 |some i=>.tuple #[.int .i64 (i:Nat),.int .i64 11]
 |none=>.tuple #[.int .i64 (-1),.int .i64 0]
theorem zdv {B:Nat} {w w':World} (h:Lib.Utf8Tabs 1 2 w) (hb:Below B w w') (hB:3<=B):Lib.Utf8Tabs 1 2 w':=
 ⟨fun c b=>(hb.cell (by simp;omega)).trans (h.1 c b),fun i a=>⟨(hb.cell (by simp;omega)).trans (h.2 i a).1,(hb.cell (by simp;omega)).trans (h.2 i a).2⟩⟩
theorem zes (s:Utf.Str) (pos d n:Nat) (h:pos<s.length) (hd:Utf.dec (s.drop pos)=(d,n)) (W:World) (hT:Lib.Utf8Tabs 1 2 W):
 Calls prog 57 #[.string ((⟨s.toArray⟩:ByteArray).extract pos s.length)] W fun e w'=>e=.returned (.tuple #[.int .i32 d,.int .i64 n])/\Below W.heap.size W w':=by
 have b:(⟨s.toArray⟩:ByteArray).extract pos s.length=⟨(s.drop pos).toArray⟩:=by
  rw[zgf]
 rw[b];refine(utf8_DecodeRuneInString _ W hT).mono ?_;rintro e w' ⟨rfl,a⟩;have c:Lib.decodeGo ⟨(s.drop pos).toArray⟩=(d,n):=by
  unfold Lib.decodeGo;rw[if_neg (by simp[ByteArray.size];omega),Utf.zu9,List.drop_zero,hd]
 rw[c];exact⟨rfl,a⟩
theorem zgg (s:Utf.Str) (hs:s.length<=1073741823) (w:World) (hT:Lib.Utf8Tabs 1 2 w) (hw:3<=w.heap.size) (v:Value) (hv:ckVal (Utf.bad s)=v):
 Calls prog 43 #[.string ⟨s.toArray⟩] w fun e w'=>e=.returned v/\Below w.heap.size w w':=by
 have K:=hid hv;have H:=hid hT;clear hv hT;go_enter func43,ntmps43;go_wp2_with fail;go_loopw [10] (fun x wr=>∃pos:Nat,pos<=s.length/\wr.heap[w.heap.size]? =some (.stringIter ⟨s.toArray⟩ pos)/\Below w.heap.size w wr/\Hid (Utf.bad s=Utf.badR (s.drop pos) pos)) (fun _ wr=>s.length-wr.iterPos w.heap.size)
 case atStart=>exact⟨0,by omega,World.iter_heap w _ 0,(Below.refl _ _).alloc (Nat.le_refl _) _,hid rfl⟩
 case round=>
  obtain⟨pos,hp,l,D,B⟩:=hrel;have HK:=hid l;have E:=hid D;by_cases hlt:pos<s.length
  .obtain⟨d,n,t⟩:∃d n,Utf.dec (s.drop pos)=(d,n):=⟨_,_,rfl⟩
   have o:s.drop pos≠[]:=by intro e;have:=congrArg List.length e;simp at this;omega
   have k:=Utf.zhm (s.drop pos);have j:=Utf.zy8 (s.drop pos) o;rw[t]at k j;have b:=Utf.zxe (s.drop pos) pos d n o t;rw[List.drop_drop]at b;have hn1:1<=n:=k.1;have r:pos+n<=s.length:=by have:n<=(s.drop pos).length:=j;simp at this;omega
   have u:∀ty,(Instr.next (.pointer (some ⟨w.heap.size,0,none⟩)) true ty).run prog wr=.ok (.tuple #[.bool true,.int .i64 pos,.int .i32 d]) (wr.iterAt w.heap.size ⟨s.toArray⟩ (pos+n)):=by
    intro ty;rw[Lib.run_next_any_at wr w.heap.size ⟨s.toArray⟩ pos ty l (by simp[ByteArray.size];omega),Utf.zu9,t]
   obtain⟨G,f⟩:=ex (wr.iterAt w.heap.size ⟨s.toArray⟩ (pos+n))
   have p:G.heap[w.heap.size]? =some (.stringIter ⟨s.toArray⟩ (pos+n)):=by rw[<-f];exact Lib.iterAt_heap wr _ _ pos _ l
   have y:Below w.heap.size w G:=by rw[<-f];exact Lib.below_iterAt D (Nat.le_refl _) _ _
   rw[f]at u;have m:=hid p;have a:=hid y;have h:=hid b;have L:=hid t;have F:w.heap.size<G.heap.size:=(Array.getElem?_eq_some_iff.1 p).1;have hpI:(pos:Int)<=(s.length:Int):=by omega
   have A:Hid (wr.iterPos w.heap.size=pos):=hid (iterPos_of l);clear f p y b t k j o l D;by_cases h65:d=65533
   .have I:(d:Int)=65533:=by omega
    have z:Hid (Utf.dec (s.drop pos)=(65533,n)):=hid (by rw[L.out,h65]);by_cases hn:n=1
    .have i:Hid (ckVal (some pos)=v):=hid (by rw[<-K.out,B.out,h.out,if_pos ⟨h65,hn⟩]);have J:(n:Int)=1:=by omega
     clear h65 hn;go_wp2_with fail;refine(zes s pos 65533 n hlt z.out _ (zdv H.out a.out hw)).mono ?_;rintro e C ⟨rfl,c⟩;have g:Hid (Below w.heap.size w C):=hid (a.out.trans (c.mono a.out.size));clear c;go_wp2_with fail;(try refine bodyPost_ret (v:=.tuple #[.int .i64 pos,.int .i64 11]) (by simp[results,results43,go_sem]) rfl ?_);exact⟨by rw[<-i.out];rfl,g.out⟩
    .have i:Hid (Utf.bad s=Utf.badR (s.drop (pos+n)) (pos+n)):=hid (by rw[B.out,h.out,if_neg (by simp[hn])]);have J:¬((n:Int)=1):=by omega
     have k2b:((n:Int)==1)=false:=by simpa using J
     clear h65 hn;go_wp2_with fail;refine(zes s pos 65533 n hlt z.out _ (zdv H.out a.out hw)).mono ?_;rintro e C ⟨rfl,c⟩;have g:Hid (Below w.heap.size w C):=hid (a.out.trans (c.mono a.out.size));have q:Hid (C.heap[w.heap.size]? =some (.stringIter ⟨s.toArray⟩ (pos+n))):=hid ((c.block _ F).trans m.out);clear c;go_wp2;go_roundw
     case rel=>exact⟨pos+n,r,q.out,g.out,i⟩
     case measure=>rw[iterPos_of q.out,A.out];omega
   .have I:¬((d:Int)=65533):=by omega
    have k1b:((d:Int)==65533)=false:=by simpa using I
    have i:Hid (Utf.bad s=Utf.badR (s.drop (pos+n)) (pos+n)):=hid (by rw[B.out,h.out,if_neg (by simp[h65])]);go_wp2;go_roundw
    case rel=>exact⟨pos+n,r,m.out,a.out,i⟩
    case measure=>rw[iterPos_of m.out,A.out];omega
  .have u:∀ty,(Instr.next (.pointer (some ⟨w.heap.size,0,none⟩)) true ty).run prog wr=.ok (.tuple #[.bool false]) wr:=fun ty=>Lib.run_next_end_at wr w.heap.size ⟨s.toArray⟩ pos ty l (by simp[ByteArray.size];omega)
   have i:Hid (ckVal none=v):=hid (by rw[<-K.out,B.out,List.drop_eq_nil_of_le (by omega)];rfl);clear l D;go_wp2_with fail;(try refine bodyPost_ret (v:=.tuple #[.int .i64 (-1),.int .i64 0]) (by simp[results,results43,go_sem]) rfl ?_);exact⟨by rw[<-i.out];rfl,E.out⟩
def tl:Nat->Code->Code
 | 0,c=>c
 |n+1,.seq _ b=>tl n b
 |_+1,c=>c
namespace Cal
def leapB (y:Int):Bool:=(y.tmod 4==0) && (!(y.tmod 100==0) || (y.tmod 400==0))
def lp (y:Int):Int:=if leapB y=true then 1 else 0
def dim (y m:Int):Int:=if m=2 then 28+lp y else if m=4\/m=6\/m=9\/m=11 then 30 else 31
def tbl (m:Int):Int:=if m<=3 then 59 else if m<=4 then 90 else if m<=5 then 120 else if m<=6 then 151 else if m<=7 then 181 else if m<=8 then 212 else if m<=9 then 243 else if m<=10 then 273 else if m<=11 then 304 else if m<=12 then 334 else 365
def cum (y m:Int):Int:=if m<=1 then 0 else if m<=2 then 31 else tbl m+lp y
def fst (y:Int):Int:=365*y+(y+3) /4-(y+99) /100+(y+399) /400
def num (y m d:Int):Int:=fst y+cum y m+d-1-719528
def vld (y m d:Int):Bool:=decide (0<=y) && decide (y<=9999) && decide (1<=m) && decide (m<=12) && decide (1<=d) && decide (d<=dim y m)
theorem zxv (y:Int):0<=lp y/\lp y<=1:=by unfold lp;split<;>omega
theorem zpk (y:Int) (h:0<=y):leapB y=true↔(y%4=0/\(y%100≠0\/y%400=0)):=by
 unfold leapB;rw[Int.tmod_eq_emod_of_nonneg h,Int.tmod_eq_emod_of_nonneg h,Int.tmod_eq_emod_of_nonneg h];simp
theorem zk0 (y:Int) (h:0<=y):fst (y+1)=fst y+365+lp y:=by
 unfold lp;have hl:=zpk y h;unfold fst;by_cases c:leapB y=true
 .grind
 .grind
theorem zk1 (a b:Int) (_h0:0<=a) (h:a<=b):fst a+365*(b-a)<=fst b:=by unfold fst;omega
theorem zxw (a:Int) (h0:0<=a) (h:a<=10000):0<=fst a/\fst a<=3652425:=by unfold fst;omega
theorem zxx (n:Int) (h0:0<=n):fst (n /366)<=n:=by unfold fst;omega
theorem zpl:fst 10000=3652425:=by decide
theorem zxy (y m:Int):28<=dim y m/\dim y m<=31:=by
 have:=zxv y;unfold dim;split
 .omega
 .split<;>omega
theorem zyv (y:Int):cum y 1=0:=rfl
theorem zg3 (y m:Int) (h1:1<=m) (h2:m<=12):cum y (m+1)=cum y m+dim y m:=by
 have a:m=1\/m=2\/m=3\/m=4\/m=5\/m=6\/m=7\/m=8\/m=9\/m=10\/m=11\/m=12:=by omega
 rcases a with rfl|rfl|rfl|rfl|rfl|rfl|rfl|rfl|rfl|rfl|rfl|rfl<;>simp[cum,dim,tbl]<;>omega
theorem zxz (m:Int):59<=tbl m/\tbl m<=365:=by
 unfold tbl
 iterate 10 (split;decide)
 decide
theorem zx0 (y m:Int):0<=cum y m/\cum y m<=366:=by
 have:=zxv y;have:=zxz m;unfold cum;split
 .omega
 .split<;>omega
theorem zx1 (y:Int):cum y 13=365+lp y:=rfl
theorem zk2 (y a b:Int) (h1:1<=a) (h:a<=b) (h2:b<=13):cum y a<=cum y b:=by
 have c:∀k:Nat,∀a:Int,1<=a->a+k<=13->cum y a<=cum y (a+k):=by
  intro k
  induction k with
  |zero=>intro a _ _;simp
  |succ k ih=>
   intro a h1 h2;have h3:=ih a h1 (by omega);have h4:=zg3 y (a+k) (by omega) (by omega);have:=zxy y (a+k);rw[show a+((k+1:Nat):Int)=a+k+1 from by omega];omega
 have:=c (b-a).toNat a h1 (by omega);rwa[show a+((b-a).toNat:Int)=b from by omega]at this
theorem zy9 {y m d:Int} (h:0<=y/\y<=9999/\1<=m/\m<=12/\1<=d/\d<=dim y m):vld y m d=true:=by
 simp[vld];omega
theorem zpm {y m d:Int} (h:vld y m d=true):0<=y/\y<=9999/\1<=m/\m<=12/\1<=d/\d<=dim y m:=by
 simp[vld]at h;omega
theorem zjr {y m d:Int} (h1:1<=m) (h2:m<=12) (h3:1<=d) (h4:d<=dim y m):0<=cum y m+d-1/\cum y m+d-1<365+lp y:=by
 have:=zx0 y m;have:=zg3 y m h1 h2;have a:=zk2 y (m+1) 13 (by omega) (by omega) (by omega);rw[zx1]at a;omega
theorem zuk {y m d y' m' d':Int} (h:vld y m d=true) (h':vld y' m' d'=true) (hl:y<y'\/y=y'/\(m<m'\/m=m'/\d<d')):num y m d<num y' m' d':=by
 have a:=zpm h;have b:=zpm h';have ia:=zjr (y:=y) (m:=m) (d:=d) (by omega) (by omega) (by omega) (by omega);have ib:=zjr (y:=y') (m:=m') (d:=d') (by omega) (by omega) (by omega) (by omega);unfold num;rcases hl with hl|⟨rfl,hl|⟨rfl,hl⟩⟩
 .have e:=zk0 y (by omega);have c:=zk1 (y+1) y' (by omega) (by omega);omega
 .have e:=zg3 y m (by omega) (by omega);have c:=zk2 y (m+1) m' (by omega) (by omega) (by omega);omega
 .omega
theorem zyw {y m d y' m' d':Int} (h:vld y m d=true) (h':vld y' m' d'=true) (hn:num y m d=num y' m' d'):y=y'/\m=m'/\d=d':=by
 by_cases c1:y<y'\/y=y'/\(m<m'\/m=m'/\d<d')
 .have:=zuk h h' c1;omega
 .by_cases c2:y'<y\/y'=y/\(m'<m\/m'=m/\d'<d)
  .have:=zuk h' h c2;omega
  .omega
theorem zza {y m d:Int} (h:vld y m d=true):-719528<=num y m d/\num y m d<=2932896:=by
 have a:=zpm h;have ia:=zjr (y:=y) (m:=m) (d:=d) (by omega) (by omega) (by omega) (by omega);have h1:=zk0 y (by omega);have b:=zk1 (y+1) 10000 (by omega) (by omega);have h3:=zxw y (by omega) (by omega);rw[zpl]at b;unfold num;omega
end Cal
namespace Gr
def numAt (s:List UInt8) (a n:Nat):Option Nat:=if a+n<=s.length/\((s.drop a).take n).all dig=true then some (val ((s.drop a).take n))else none
def isAt (s:List UInt8) (a:Nat) (c:UInt8):Bool:=s[a]? ==some c
def dateAt (s:List UInt8):Option (Nat×Nat×Nat):=
 match numAt s 0 4,numAt s 5 2,numAt s 8 2 with
 |some y,some m,some d=>if(isAt s 4 45 && isAt s 7 45)=true then some (y,m,d)else none
 |_,_,_=>none
structure Ck where
 h:Nat
 m:Nat
 s:Nat
 nanos:Nat
 stop:Nat
def clockAt (s:List UInt8) (a:Nat):Option Ck:=
 match numAt s a 2,numAt s (a+3) 2,numAt s (a+6) 2 with
 |some h,some m,some c=>
  if(isAt s (a+2) 58 && isAt s (a+5) 58)=true then
   if isAt s (a+8) 46=true then
    if((s.drop (a+9)).takeWhile dig).length=0\/9<((s.drop (a+9)).takeWhile dig).length then none
    else some ⟨h,m,c,val ((s.drop (a+9)).takeWhile dig)*10 ^ (9-((s.drop (a+9)).takeWhile dig).length),a+9+((s.drop (a+9)).takeWhile dig).length⟩
   else some ⟨h,m,c,0,a+8⟩
  else none
 |_,_,_=>none
structure Zn where
 z:UInt8
 h:Nat
 m:Nat
 stop:Nat
def zoneAt (s:List UInt8) (a:Nat):Option Zn:=
 if isAt s a 90=true then some ⟨90,0,0,a+1⟩
 else match numAt s (a+1) 2,numAt s (a+4) 2 with
  |some h,some m=>if((isAt s a 43 || isAt s a 45) && isAt s (a+3) 58)=true then some ⟨s.getD a 0,h,m,a+6⟩else none
  |_,_=>none
structure Mo where
 date:Bool
 time:Bool
 y:Nat
 m:Nat
 d:Nat
 h:Nat
 mi:Nat
 c:Nat
 nanos:Nat
 z:UInt8
 zh:Nat
 zm:Nat
def rd (s:List UInt8):Option Mo:=
 match dateAt s with
 |none=>match clockAt s 0 with
  |some k=>if k.stop=s.length then some ⟨false,true,0,0,0,k.h,k.m,k.s,k.nanos,0,0,0⟩else none
  |none=>none
 |some (y,m,d)=>
  if s.length=10 then some ⟨true,false,y,m,d,0,0,0,0,0,0,0⟩
  else if(isAt s 10 84 || isAt s 10 32)=true then match clockAt s 11 with
   |none=>none
   |some k=>if k.stop=s.length then some ⟨true,true,y,m,d,k.h,k.m,k.s,k.nanos,0,0,0⟩
    else match zoneAt s k.stop with
     |some z=>if z.stop=s.length then some ⟨true,true,y,m,d,k.h,k.m,k.s,k.nanos,z.z,z.h,z.m⟩else none
     |none=>none
  else none
def okR (x:Mo):Bool:=(!x.date || Cal.vld x.y x.m x.d) && decide (x.h<=23) && decide (x.mi<=59) && decide (x.c<=59) && decide (x.zh<=23) && decide (x.zm<=59)
def offS (x:Mo):Int:=if x.z=45 then -((3600*x.zh+60*x.zm:Nat):Int)else((3600*x.zh+60*x.zm:Nat):Int)
def secs (x:Mo):Int:=Cal.num x.y x.m x.d*86400+(3600*x.h+60*x.mi+x.c:Nat)-offS x
def pd:Nat->Nat->List UInt8
 | 0,_=>[]
 |w+1,x=>pd w (x /10)++[ch (x%10)]
theorem za6 (w x:Nat):(pd w x).length=w:=by
 induction w generalizing x with
 |zero=>rfl
 |succ w ih=>unfold pd;rw[List.length_append,ih];rfl
theorem zsw (w x:Nat):pd (w+1) x=ch (x /10 ^ w%10)::pd w x:=by
 induction w generalizing x with
 |zero=>simp[pd]
 |succ w ih=>
  rw[pd,ih,List.cons_append];rw[show pd (w+1) x=pd w (x /10)++[ch (x%10)]from rfl,Nat.div_div_eq_div_mul,Nat.pow_succ,Nat.mul_comm 10]
theorem zpn (w:Nat):pd w 0=List.replicate w 48:=by
 induction w with
 |zero=>rfl
 |succ w ih=>rw[pd,Nat.zero_div,ih,List.replicate_succ'];rfl
theorem zpo (w x:Nat) (hw:1<=w) (hx:x<10 ^ w):List.replicate (w-(Lib.decDigits x).length) 48++Lib.decDigits x=pd w x:=by
 induction w generalizing x with
 |zero=>omega
 |succ w ih=>
  by_cases h:x<10
  .rw[Lib.decDigits_one h,pd,show x /10=0 from by omega,zpn,show x%10=x from by omega];rfl
  .rcases Nat.eq_zero_or_pos w with h0|h0
   .subst h0;simp at hx;omega
   .have a:=ih (x /10) h0 (by rw[Nat.pow_succ]at hx;omega);rw[zaw h,pd,<-a,List.length_append,List.append_assoc]
    congr 2
    simp
def trimZ (l:List UInt8):List UInt8:=(l.reverse.dropWhile (fun c=>c==48)).reverse
def nanoS (n:Nat):List UInt8:=if n=0 then[]else 46::trimZ (pd 9 n)
def dateS (y m d:Nat):List UInt8:=pd 4 y++45::(pd 2 m++45::pd 2 d)
def clkS (h m s n:Nat):List UInt8:=pd 2 h++58::(pd 2 m++58::(pd 2 s++nanoS n))
def locS (x:Mo):List UInt8:=(if x.date=true then dateS x.y x.m x.d else[])++((if(x.date && x.time)=true then[84]else[])++(if x.time=true then clkS x.h x.mi x.c x.nanos else[]))
theorem zml (w:Nat):trimZ (List.replicate w 48)=[]:=by
 unfold trimZ;rw[List.reverse_replicate]
 induction w with
 |zero=>rfl
 |succ w ih=>rw[List.replicate_succ,List.dropWhile_cons,if_pos (by decide)];exact ih
theorem zf3 (l:List UInt8) (c:UInt8):trimZ (l++[c])=if c=48 then trimZ l else l++[c]:=by
 unfold trimZ;rw[List.reverse_append,List.reverse_cons,List.reverse_nil,List.nil_append,List.singleton_append,List.dropWhile_cons];by_cases h:c=48
 .grind
 .grind
theorem zpp (w x:Nat) (hx:x<10 ^ w) (h:0<x):trimZ (pd w x)≠[]:=by
 induction w generalizing x with
 |zero=>simp at hx;omega
 |succ w ih=>
  rw[pd,zf3];split
  .rename_i hc;have a:=congrArg dv hc;rw[zvi _ (by omega)]at a;have h2:x%10=0:=a;exact ih (x /10) (by rw[Nat.pow_succ]at hx;omega) (by omega)
  .simp
noncomputable def dateOf (n:Int):Nat×Nat×Nat:=
 open Classical in if h:∃t:Nat×Nat×Nat,Cal.vld t.1 t.2.1 t.2.2=true/\Cal.num t.1 t.2.1 t.2.2=n then h.choose else(0,0,0)
theorem zii {n:Int} {y m d:Nat} (hv:Cal.vld y m d=true) (hn:Cal.num y m d=n):dateOf n=(y,m,d):=by
 have h:∃t:Nat×Nat×Nat,Cal.vld t.1 t.2.1 t.2.2=true/\Cal.num t.1 t.2.1 t.2.2=n:=⟨(y,m,d),hv,hn⟩
 unfold dateOf;rw[dif_pos h];obtain⟨e,f⟩:=h.choose_spec;obtain⟨a,b,c⟩:=Cal.zyw e hv (f.trans hn.symm);apply Prod.ext
 .exact Int.ofNat.inj a
 .grind
noncomputable def momS (day:Int) (r nanos:Nat):List UInt8:=
 dateS (dateOf day).1 (dateOf day).2.1 (dateOf day).2.2++84::(clkS (r /3600) (r /60%60) (r%60) nanos++[90])
noncomputable def insP (s:List UInt8):List UInt8×Nat:=
 match rd s with
 |none=>([],3)
 |some x=>if x.z=0 then([],3)else if okR x=false then([],13)
  else if secs x< -62167219200\/253402300800<=secs x then([],13)else(momS (secs x /86400) (secs x%86400).toNat x.nanos,0)
def locP (s:List UInt8):List UInt8×Nat:=
 match rd s with
 |none=>([],3)
 |some x=>if x.z≠0 then([],3)else if okR x=false then([],13)else(locS x,0)
noncomputable def insB (s:List UInt8):Bool:=decide ((insP s).2=0/\(insP s).1=s)
def locB (s:List UInt8):Bool:=decide ((locP s).2=0/\(locP s).1=s)
end Gr
namespace Utf
def rowOf (c:Nat):Nat×Nat×Nat×Nat:=
 if 192<=c/\c<224 then(2,c-192,128,2047)
 else if 224<=c/\c<240 then(3,c-224,2048,65535)
 else if 240<=c/\c<248 then(4,c-240,65536,1114111)
 else(0,0,0,0)
def goOn:Nat->Str->Option Nat
 |v,[]=>some v
 |v,c::r=>if c<128 || 191<c then none else goOn (64*v+(c.toNat-128)) r
def widen:Nat->Nat×Nat->Nat×Nat
 | 0,p=>p
 |k+1,p=>widen k (64*p.1,64*p.2+63)
def begins (b:Str):Nat×Nat:=
 match b with
 | []=>(0,0)
 |c::r=>
  if c<128/\r=[]then(c.toNat,1)
  else
   let n:=(rowOf c.toNat).1
   if r.length+1>n then(0,0)
   else match goOn (rowOf c.toNat).2.1 r with
    |none=>(0,0)
    |some v=>
     let p:=widen (n-(r.length+1)) (v,v)
     if p.2<(rowOf c.toNat).2.2.1\/p.1>(rowOf c.toNat).2.2.2\/(p.1>=55296/\p.2<=57343)then(0,0)else(p.1,n)
def refAt (r:Str):Nat×Nat:=
 if 1<=r.length/\(begins (r.take 1)).2=1 then begins (r.take 1)
 else if 2<=r.length/\(begins (r.take 2)).2=2 then begins (r.take 2)
 else if 3<=r.length/\(begins (r.take 3)).2=3 then begins (r.take 3)
 else if 4<=r.length/\(begins (r.take 4)).2=4 then begins (r.take 4)
 else(0,0)
end Utf
end Go.Proofs.YtpgmfihonmoliaaGreatDoor
namespace Go.Proofs.YtpgmfihonmoliaaGreatDoor
namespace Utf
theorem lt8 (c:UInt8) (k:Nat) (hk:k<256):(c<UInt8.ofNat k)↔c.toNat<k:=by
 rw[UInt8.lt_iff_toNat_lt,UInt8.toNat_ofNat_of_lt' (by simpa using hk)]
theorem gt8 (c:UInt8) (k:Nat) (hk:k<256):(UInt8.ofNat k<c)↔k<c.toNat:=by
 rw[UInt8.lt_iff_toNat_lt,UInt8.toNat_ofNat_of_lt' (by simpa using hk)]
def isC (d:UInt8):Bool:=decide (128<=d.toNat) && decide (d.toNat<=191)
theorem zb8 (v:Nat) (d:UInt8) (r:Str):goOn v (d::r)=if isC d then goOn (64*v+(d.toNat-128)) r else none:=by
 have a:(d<128)↔d.toNat<128:=lt8 d 128 (by omega);have b:(191<d)↔191<d.toNat:=gt8 d 191 (by omega);rw[goOn];by_cases hd:isC d=true
 .have:128<=d.toNat/\d.toNat<=191:=by simpa[isC]using hd
  rw[if_pos hd,if_neg];simp[a,b];omega
 .rw[if_neg hd,if_pos];simp only[isC,Bool.and_eq_true,decide_eq_true_eq]at hd;simp[a,b];omega
theorem zcx (c d:UInt8) (r:Str):begins (c::d::r)=
 if r.length+2>(rowOf c.toNat).1 then(0,0)
 else match goOn (rowOf c.toNat).2.1 (d::r)with
  |none=>(0,0)
  |some v=>if(widen ((rowOf c.toNat).1-(r.length+2)) (v,v)).2<(rowOf c.toNat).2.2.1\/(widen ((rowOf c.toNat).1-(r.length+2)) (v,v)).1>(rowOf c.toNat).2.2.2\/((widen ((rowOf c.toNat).1-(r.length+2)) (v,v)).1>=55296/\(widen ((rowOf c.toNat).1-(r.length+2)) (v,v)).2<=57343)then(0,0)else((widen ((rowOf c.toNat).1-(r.length+2)) (v,v)).1,(rowOf c.toNat).1):=by
 unfold begins;simp only[reduceCtorEq,and_false,if_false,List.length_cons]
 all_goals rfl
theorem zm4 (c d:UInt8) (r:Str):(begins (c::d::r)).2=0\/((begins (c::d::r)).2=(rowOf c.toNat).1/\r.length+2<=(rowOf c.toNat).1):=by
 rw[zcx];split
 .exact .inl rfl
 .grind
theorem zm5 (c:UInt8):(begins [c]).2=1↔c.toNat<128:=by
 have hlt:c.toNat<256:=c.toNat_lt;have a:(c<128)↔c.toNat<128:=by rw[UInt8.lt_iff_toNat_lt];rfl
 unfold begins;simp only[and_true,List.length_nil,a];by_cases hc:c.toNat<128
 .simp[hc]
 .rw[if_neg hc];simp only[hc,iff_false];unfold rowOf;split
  .simp only[goOn,widen];repeat' split
   all_goals simp
  .split
   .simp only[goOn,widen];repeat' split
    all_goals simp
   .split
    .simp only[goOn,widen];repeat' split
     all_goals simp
    .simp
theorem zwl (c:Nat) (h:192<=c/\c<224):rowOf c=(2,c-192,128,2047):=by unfold rowOf;rw[if_pos h]
theorem zq0 (c:Nat) (h:224<=c/\c<240):rowOf c=(3,c-224,2048,65535):=by unfold rowOf;rw[if_neg (by omega),if_pos h]
theorem ztm (c:Nat) (h:240<=c/\c<248):rowOf c=(4,c-240,65536,1114111):=by unfold rowOf;rw[if_neg (by omega),if_neg (by omega),if_pos h]
theorem ztn (c:Nat) (h:c<192\/248<=c):rowOf c=(0,0,0,0):=by unfold rowOf;rw[if_neg (by omega),if_neg (by omega),if_neg (by omega)]
theorem zdr (c:UInt8) (r:Str) (n:Nat) (hc:¬c.toNat<128) (hn:(rowOf c.toNat).1=n) (_h2:2<=n\/n=0) (h4:n<=4):
 refAt (c::r)=if 2<=n/\n<=r.length+1/\(begins ((c::r).take n)).2=n then begins ((c::r).take n)else(0,0):=by
 have a:¬(begins ((c::r).take 1)).2=1:=by
  rw[show(c::r).take 1=[c]from rfl,zm5];exact hc
 have hoth:∀k,2<=k->k<=r.length+1->k≠n->¬(begins ((c::r).take k)).2=k:=by
  intro k hk b hkn;cases r with
  |nil=>rw[List.length_nil]at b;omega
  |cons d q=>
   obtain⟨j,rfl⟩:∃j,k=j+2:=⟨k-2,by omega⟩
   have:=zm4 c d (q.take j);rw[show(c::d::q).take (j+2)=c::d::q.take j from rfl];have hl:(q.take j).length=j:=by rw[List.length_take];simp only[List.length_cons]at b;omega
   intro he;rcases this with h|h
   .omega
   .omega
 unfold refAt;rw[if_neg (fun h=>a h.2),List.length_cons];by_cases a2:n=2
 .grind
 .grind
def Agree (s:Str):Prop:=((dec s).1=65533/\(dec s).2=1/\(refAt s).2=0)\/(¬((dec s).1=65533/\(dec s).2=1)/\refAt s=dec s)
theorem zq1 (c:UInt8) (r:Str) (hc:c.toNat<128):Agree (c::r):=by
 have d:(c<128)↔c.toNat<128:=lt8 c 128 (by omega);have a:dec (c::r)=(c.toNat,1):=by
  unfold dec;simp only[List.getD_cons_zero];rw[if_pos hc]
 have b:begins [c]=(c.toNat,1):=by
  unfold begins;simp only[and_true,d,hc,if_true]
 refine .inr ⟨by rw[a];simp only;omega,?_⟩;rw[a];unfold refAt;rw[show(c::r).take 1=[c]from rfl,b,if_pos ⟨by simp,rfl⟩]
theorem zm6 (c:UInt8) (r:Str) (hc:128<=c.toNat) (h:c.toNat<192\/248<=c.toNat):Agree (c::r):=by
 have hlt:c.toNat<256:=c.toNat_lt;have a:dec (c::r)=(65533,1):=by
  unfold dec;simp only[List.getD_cons_zero];have e:(c.toNat /32==6)=false:=by simp;omega
  have d:(c.toNat /16==14)=false:=by simp;omega
  have b:(c.toNat /8==30)=false:=by simp;omega
  rw[if_neg (by omega),e,d,b];simp
 refine .inl ⟨by rw[a],by rw[a],?_⟩;rw[zdr c r 0 (by omega) (by rw[ztn _ h]) (.inr rfl) (by omega),if_neg (by omega)]
theorem zd3 (d:UInt8):(d.toNat /64==2)=isC d:=by
 have hlt:d.toNat<256:=d.toNat_lt;unfold isC;rw[Bool.eq_iff_iff];simp;omega
theorem zq2 (c:UInt8) (r:Str) (h:192<=c.toNat/\c.toNat<224):Agree (c::r):=by
 have b:=zwl _ h;have a:=zdr c r 2 (by omega) (by rw[b]) (.inl (by omega)) (by omega);have k:(c.toNat /32==6)=true:=by simp;omega
 have j:(c.toNat /16==14)=false:=by simp;omega
 have i:(c.toNat /8==30)=false:=by simp;omega
 cases r with
 |nil=>
  have g:dec [c]=(65533,1):=by
   unfold dec;simp only[List.getD_cons_zero];rw[if_neg (by omega),k,j,i];simp
  exact .inl ⟨by rw[g],by rw[g],by rw[a,if_neg (by simp)]⟩
 |cons d q=>
  have m:begins ((c::d::q).take 2)=begins [c,d]:=rfl;have e:dec (c::d::q)=if isC d then(if 128<=c.toNat%32*64+d.toNat%64 then(c.toNat%32*64+d.toNat%64,2)else(65533,1))else(65533,1):=by
   unfold dec;simp only[List.getD_cons_zero,List.getD_cons_succ,List.length_cons];rw[if_neg (by omega),k,j,i,zd3];simp
  have f:begins [c,d]=if isC d then(if 128<=c.toNat%32*64+d.toNat%64 then(c.toNat%32*64+d.toNat%64,2)else(0,0))else(0,0):=by
   rw[zcx,b,if_neg (by simp),zb8];cases g:isC d with
   |false=>rfl
   |true=>
    have hd2:128<=d.toNat/\d.toNat<=191:=by simpa[isC]using g
    have l:64*(c.toNat-192)+(d.toNat-128)=c.toNat%32*64+d.toNat%64:=by omega
    simp only[if_true,goOn,List.length_nil,Nat.zero_add,Nat.sub_self,widen,l];by_cases hge:128<=c.toNat%32*64+d.toNat%64
    .grind
    .grind
  rw[m]at a;unfold Agree;rw[e,a,f];cases g:isC d with
  |false=>simp
  |true=>
   grind
end Utf
end Go.Proofs.YtpgmfihonmoliaaGreatDoor
namespace Go.Proofs.YtpgmfihonmoliaaGreatDoor
namespace Utf
theorem zi0 (v:Nat):Utf8.valid (v:Int)=(decide (v<55296) || (decide (57344<=v) && decide (v<=1114111))):=by
 unfold Utf8.valid;rw[Bool.eq_iff_iff];simp only[Bool.or_eq_true,Bool.and_eq_true,decide_eq_true_eq];omega
theorem zj4 (c:UInt8) (r:Str) (h:224<=c.toNat/\c.toNat<240):Agree (c::r):=by
 have b:=zq0 _ h;have a:=zdr c r 3 (by omega) (by rw[b]) (.inl (by omega)) (by omega);have p:(c.toNat /32==6)=false:=by simp;omega
 have n:(c.toNat /16==14)=true:=by simp;omega
 have l:(c.toNat /8==30)=false:=by simp;omega
 match r,a with
 | [],a=>
  have f:dec [c]=(65533,1):=by
   unfold dec;simp only[List.getD_cons_zero];rw[if_neg (by omega),p,n,l];simp
  exact .inl ⟨by rw[f],by rw[f],by rw[a,if_neg (by simp)]⟩
 | [d],a=>
  have f:dec [c,d]=(65533,1):=by
   unfold dec;simp only[List.getD_cons_zero];rw[if_neg (by omega),p,n,l];simp
  exact .inl ⟨by rw[f],by rw[f],by rw[a,if_neg (by simp)]⟩
 |d::e::q,a=>
  have t:begins ((c::d::e::q).take 3)=begins [c,d,e]:=rfl;obtain⟨v,s⟩:∃v,v=c.toNat%16*4096+d.toNat%64*64+e.toNat%64:=⟨_,rfl⟩
  have j:dec (c::d::e::q)=if isC d && isC e then(if 2048<=v/\(v<55296\/57343<v)then(v,3)else(65533,1))else(65533,1):=by
   unfold dec;simp only[List.getD_cons_zero,List.getD_cons_succ,List.length_cons];rw[if_neg (by omega),p,n,l,zd3,zd3,<-s];have g:decide (1<q.length+1+1+1)=true:=by simp
   have i:decide (2<q.length+1+1+1)=true:=by simp
   rw[g,i];simp only[Bool.false_and,Bool.true_and,Bool.false_eq_true,if_false];have m:v<=65535:=by omega
   cases hdd:isC d && isC e with
   |false=>simp
   |true=>
    simp only[if_true,zi0];by_cases hg:2048<=v/\(v<55296\/57343<v)
    .grind
    .grind
  have k:begins [c,d,e]=if isC d && isC e then(if 2048<=v/\(v<55296\/57343<v)then(v,3)else(0,0))else(0,0):=by
   rw[zcx,b,if_neg (by simp),zb8];cases f:isC d with
   |false=>rfl
   |true=>
    rw[if_pos rfl,zb8];cases he:isC e with
    |false=>rfl
    |true=>
     have hd2:128<=d.toNat/\d.toNat<=191:=by simpa[isC]using f
     have he2:128<=e.toNat/\e.toNat<=191:=by simpa[isC]using he
     have o:64*(64*(c.toNat-224)+(d.toNat-128))+(e.toNat-128)=v:=by omega
     have m:v<=65535:=by omega
     simp only[if_true,goOn,List.length_nil,List.length_cons,Nat.zero_add,Nat.sub_self,widen,o,Bool.and_self];by_cases hg:2048<=v/\(v<55296\/57343<v)
     .grind
     .grind
  rw[t]at a;unfold Agree;rw[j,a,k];cases f:isC d && isC e with
  |false=>simp
  |true=>
   grind
theorem zm7 (c:UInt8) (r:Str) (h:240<=c.toNat/\c.toNat<248):Agree (c::r):=by
 have g:=ztm _ h;have b:=zdr c r 4 (by omega) (by rw[g]) (.inl (by omega)) (by omega);have p:(c.toNat /32==6)=false:=by simp;omega
 have t:(c.toNat /16==14)=false:=by simp;omega
 have s:(c.toNat /8==30)=true:=by simp;omega
 have a:r.length<3->Agree (c::r):=by
  intro hl;have n:dec (c::r)=(65533,1):=by
   unfold dec;simp only[List.getD_cons_zero,List.length_cons];rw[if_neg (by omega),p,t,s];have w:decide (3<r.length+1)=false:=by simp;omega
   rw[w];simp
  exact .inl ⟨by rw[n],by rw[n],by rw[b,if_neg (by omega)]⟩
 match r,b,a with
 | [],_,a=>exact a (by simp)
 | [_],_,a=>exact a (by simp)
 | [_,_],_,a=>exact a (by simp)
 |d::e::f::q,b,_=>
  have x:begins ((c::d::e::f::q).take 4)=begins [c,d,e,f]:=rfl;obtain⟨v,u⟩:∃v,v=c.toNat%8*262144+d.toNat%64*4096+e.toNat%64*64+f.toNat%64:=⟨_,rfl⟩
  have l:dec (c::d::e::f::q)=if isC d && isC e && isC f then(if 65536<=v/\v<=1114111 then(v,4)else(65533,1))else(65533,1):=by
   unfold dec;simp only[List.getD_cons_zero,List.getD_cons_succ,List.length_cons];rw[if_neg (by omega),p,t,s,zd3,zd3,zd3,<-u];have k:decide (1<q.length+1+1+1+1)=true:=by simp
   have i:decide (2<q.length+1+1+1+1)=true:=by simp
   have j:decide (3<q.length+1+1+1+1)=true:=by simp
   rw[k,i,j];simp only[Bool.false_and,Bool.true_and,Bool.false_eq_true,if_false];cases hdd:isC d && isC e && isC f with
   |false=>simp
   |true=>
    simp only[if_true,zi0];by_cases hg:65536<=v/\v<=1114111
    .grind
    .grind
  have m:begins [c,d,e,f]=if isC d && isC e && isC f then(if 65536<=v/\v<=1114111 then(v,4)else(0,0))else(0,0):=by
   rw[zcx,g,if_neg (by simp),zb8];cases n:isC d with
   |false=>rfl
   |true=>
    rw[if_pos rfl,zb8];cases he:isC e with
    |false=>rfl
    |true=>
     rw[if_pos rfl,zb8];cases hf:isC f with
     |false=>rfl
     |true=>
      have hd2:128<=d.toNat/\d.toNat<=191:=by simpa[isC]using n
      have he2:128<=e.toNat/\e.toNat<=191:=by simpa[isC]using he
      have hf2:128<=f.toNat/\f.toNat<=191:=by simpa[isC]using hf
      have o:64*(64*(64*(c.toNat-240)+(d.toNat-128))+(e.toNat-128))+(f.toNat-128)=v:=by omega
      simp only[if_true,goOn,List.length_nil,List.length_cons,Nat.zero_add,Nat.sub_self,widen,o,Bool.and_self];by_cases hg:65536<=v/\v<=1114111
      .grind
      .grind
  rw[x]at b;unfold Agree;rw[l,b,m];cases n:isC d && isC e && isC f with
  |false=>simp
  |true=>
   grind
theorem agree (s:Str) (h:s≠[]):Agree s:=by
 cases s with
 |nil=>exact absurd rfl h
 |cons c r=>
  have hlt:c.toNat<256:=c.toNat_lt;by_cases h1:c.toNat<128
  .exact zq1 c r h1
  .by_cases h2:c.toNat<192\/248<=c.toNat
   .exact zm6 c r (by omega) h2
   .by_cases h3:c.toNat<224
    .exact zq2 c r (by omega)
    .by_cases h4:c.toNat<240
     .exact zj4 c r (by omega)
     .exact zm7 c r (by omega)
end Utf
end Go.Proofs.YtpgmfihonmoliaaGreatDoor
namespace Go.Proofs.YtpgmfihonmoliaaGreatDoor
namespace Utf
end Utf
end Go.Proofs.YtpgmfihonmoliaaGreatDoor

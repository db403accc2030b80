import Derived.Test.YtoigpackhninoaaGreatDoorZ09
import Derived.Test.YtoigpackhninoaaGreatDoorGrReached
namespace Go.Proofs.YtoigpackhninoaaGreatDoor
open Gr
open _root_.Go.Proofs.Tryz
open Lib (hid)
set_option maxRecDepth 100000
set_option maxHeartbeats 16000000
open Go.RowKit
def tw (s:Gr.Str) (a n:Nat):Int:=match numAt s a n with
 |some v=>(v:Int)
 |none=>-1
theorem zd2 (c:UInt8) (b:Nat) (hb:c.toNat=b):Gr.dig c=(decide (48<=b) && decide (b<=57))/\Gr.dv c=b-48:=by
 subst hb;refine⟨?_,rfl⟩;rw[Bool.eq_iff_iff,zbh];simp
theorem zcl (s:Gr.Str) (a k:Nat) (h:a+k<s.length):(s.drop a).take (k+1)=(s.drop a).take k++[s[a+k]]:=by
 rw[List.take_succ_eq_append_getElem (by simp;omega),List.getElem_drop]
theorem zdo (s:Gr.Str) (a n k:Nat) (hk:k<n) (h:a+k<s.length) (hd:Gr.dig s[a+k]=false):numAt s a n=none:=by
 unfold numAt;rw[if_neg];rintro⟨h1,h2⟩;rw[List.all_eq_true]at h2;have:=h2 s[a+k] (by
  rw[List.mem_take_iff_getElem];exact⟨k,by simp;omega,by rw[List.getElem_drop]⟩)
 rw[hd]at this;cases this
theorem zda (s:Gr.Str) (a n:Nat) (h:s.length<a+n):numAt s a n=none:=by
 unfold numAt;rw[if_neg (fun hc=>by omega)]
theorem ziq (s:Gr.Str) (a n:Nat) (h:a+n<=s.length) (hd:((s.drop a).take n).all Gr.dig=true):numAt s a n=some (Gr.val ((s.drop a).take n)):=by
 unfold numAt;rw[if_pos ⟨h,hd⟩]
theorem zle (l:Gr.Str) (hd:l.all Gr.dig=true) (h:l.length<=9):Gr.val l<1000000000:=Nat.lt_of_lt_of_le (zew l hd) (Nat.pow_le_pow_right (n:=10) (by omega) h)
theorem zcx {s:Gr.Str} {a n v:Nat} (h:numAt s a n=some v) (hn:n<=9):v<1000000000/\v<10 ^ n/\a+n<=s.length:=by
 unfold numAt at h;split at h
 ·rename_i hc;injection h with h
  subst h;have hlen:((s.drop a).take n).length=n:=by simp;omega
  have:=zew _ hc.2;rw[hlen]at this;exact⟨zle _ hc.2 (by omega),this,hc.1⟩
 ·cases h
theorem zcm (s:Gr.Str) (hl:s.length<=1073741823) (a n:Nat) (i j:Int) (hi:i=(a:Int)) (hj:j=(n:Int)) (ha:a<=2147483647) (hn:n<=9) (w:World):
 Calls prog 163 #[.string ⟨s.toArray⟩,.int .i64 i,.int .i64 j] w fun e w'=>e=.returned (.int .i64 (tw s a n))/\w=w':=by
 subst hi;subst hj;obtain⟨r,hr⟩:=ex (tw s a n)
 have HR:=hid hr;rw[hr];clear hr;by_cases hlen:s.length<a+n
 ·have hlI:(s.length:Int)<(a:Int)+(n:Int):=by omega
  have HF:Hid (r=-1):=hid (by rw[<-HR.out];unfold tw;rw[zda s a n hlen]);go_enter func163,ntmps163;go_wp2;go_ret;rw[HF.out];exact⟨rfl,rfl⟩
 ·have hlI:¬(s.length:Int)<(a:Int)+(n:Int):=by omega
  go_enter func163,ntmps163;go_wp2_with fail;go_loop [7,8] (fun s7 s8=>∃k v:Nat,k<=n/\v<=999999999/\s7=.int .i64 (v:Int)/\s8=.int .i64 ((a+k:Nat):Int)/\Hid (((s.drop a).take k).all Gr.dig=true/\v=Gr.val ((s.drop a).take k))) (fun _ s8=>a+n-(intOf s8).toNat)
  case atStart=>exact⟨0,0,by omega,by omega,rfl,rfl,hid ⟨by simp,by simp[Gr.val]⟩⟩
  case round=>
   obtain⟨k,v,hk,hv,rfl,rfl,HV⟩:=hrel;by_cases hlt:k<n
   ·have hltI:((a+k:Nat):Int)<(a:Int)+(n:Int):=by omega
    have hltS:a+k<s.length:=by omega
    obtain⟨b,hb⟩:∃b:Nat,(s[a+k]'hltS).toNat=b:=⟨_,rfl⟩
    have hbv:(((⟨s.toArray⟩:ByteArray)[a+k]'(by simpa[ByteArray.size]using hltS)).toNat:Int)=(b:Int):=by rw[<-hb];rfl
    have hbl:b<256:=by rw[<-hb];exact(s[a+k]'hltS).toNat_lt
    have HBD:=hid (zd2 (s[a+k]'hltS) b hb);clear hb;by_cases h48:48<=b
    ·have a48:¬(b:Int)<48:=by omega
     have b48:(48:Int)<=(b:Int):=by omega
     by_cases h57:b<=57
     ·have a57:¬(57:Int)<(b:Int):=by omega
      have HT:=hid (zcl s a k hltS);have HNX:Hid (((s.drop a).take (k+1)).all Gr.dig=true/\10*v+(b-48)=Gr.val ((s.drop a).take (k+1))):=hid (by
       rw[HT.out,List.all_append,HV.out.1,zbi,<-HV.out.2,HBD.out.2];exact⟨by simp[HBD.out.1,h48,h57],rfl⟩)
      have hvn:10*v+(b-48)<=999999999:=by
       rw[HNX.out.2];have:=zle _ HNX.out.1 (by simp;omega);omega
      clear hlI;go_wp2;go_round
      case rel=>exact⟨k+1,10*v+(b-48),by omega,hvn,by exact congrArg (Value.int .i64) (by omega),by go_num,HNX⟩
      case measure=>simp[intOf];omega
     ·have a57:(57:Int)<(b:Int):=by omega
      have HF:Hid (r=-1):=hid (by rw[<-HR.out];unfold tw;rw[zdo s a n k hlt hltS (by rw[HBD.out.1];simp[h57])]);go_wp2;go_ret;rw[HF.out];exact⟨rfl,rfl⟩
    ·have a48:(b:Int)<48:=by omega
     have HF:Hid (r=-1):=hid (by rw[<-HR.out];unfold tw;rw[zdo s a n k hlt hltS (by rw[HBD.out.1];simp[h48])]);go_wp2;go_ret;rw[HF.out];exact⟨rfl,rfl⟩
   ·obtain rfl:k=n:=by omega
    have hltI:¬((a+k:Nat):Int)<(a:Int)+(k:Int):=by omega
    have HF:Hid (r=(v:Int)):=hid (by rw[<-HR.out];unfold tw;rw[ziq s a k (by omega) HV.out.1,HV.out.2]);go_wp2;go_ret;rw[HF.out];exact⟨rfl,rfl⟩
theorem zcn (s:Gr.Str) (_hl:s.length<=1073741823) (a:Nat) (i:Int) (hi:i=(a:Int)) (c:UInt8) (j:Int) (hj:j=(c.toNat:Int)) (w:World):
 Calls prog 136 #[.string ⟨s.toArray⟩,.int .i64 i,.int .u8 j] w fun e w'=>e=.returned (.bool (isAt s a c))/\w=w':=by
 subst hi;subst hj;obtain⟨r,hr⟩:=ex (isAt s a c)
 have HR:=hid hr;rw[hr];clear hr;obtain⟨d,hd⟩:∃d:Nat,c.toNat=d:=⟨_,rfl⟩
 have HD:=hid hd;rw[hd];clear hd;by_cases hlt:a<s.length
 ·have hltI:(a:Int)<(s.length:Int):=by omega
  obtain⟨b,hb⟩:∃b:Nat,(s[a]'hlt).toNat=b:=⟨_,rfl⟩
  have hbv:(((⟨s.toArray⟩:ByteArray)[a]'(by simpa[ByteArray.size]using hlt)).toNat:Int)=(b:Int):=by rw[<-hb];rfl
  have HF:Hid (((b:Int)==(d:Int))=r):=hid (by
   rw[<-HR.out];unfold isAt;rw[List.getElem?_eq_getElem hlt,Bool.eq_iff_iff];simp only[beq_iff_eq,Option.some.injEq];rw[<-UInt8.toNat_inj,HD.out,hb];omega)
  clear hb;go_enter func136,ntmps136;go_wp2;go_ret;rw[<-HF.out];exact⟨rfl,rfl⟩
 ·have hltI:¬(a:Int)<(s.length:Int):=by omega
  have HF:Hid (r=false):=hid (by
   rw[<-HR.out];unfold isAt;rw[List.getElem?_eq_none (by omega)];rfl)
  go_enter func136,ntmps136;go_wp2;go_ret;rw[HF.out];exact⟨rfl,rfl⟩
theorem zqi (y:Int) (w:World):
 Calls prog 164 #[.int .i64 y] w fun e w'=>e=.returned (.bool (Cal.leapB y))/\w=w':=by
 go_enter func164,ntmps164;go_wp2
 all_goals go_ret
 all_goals exact⟨congrArg (fun b=>Ending.returned (.bool b)) (by simp[Cal.leapB, *]),rfl⟩
theorem zd4 (y m:Int) (_h1:1<=m) (_h2:m<=12) (w:World):
 Calls prog 138 #[.int .i64 y,.int .i64 m] w fun e w'=>e=.returned (.int .i64 (Cal.dim y m))/\w=w':=by
 go_enter func138,ntmps138;go_wp2_with (go_at_call 164;refine(zqi _ _).mono ?_;rintro e w' ⟨rfl,rfl⟩)
 all_goals go_ret
 all_goals exact⟨congrArg (fun b=>Ending.returned (.int .i64 b)) (by simp_all [Cal.dim,Cal.lp]),rfl⟩
theorem zir (y m d:Int) (h0:0<=y) (h1:y<=20000) (h2:1<=m) (h3:m<=12) (h4:0<=d) (h5:d<=1000) (w:World):
 Calls prog 162 #[.int .i64 y,.int .i64 m,.int .i64 d] w fun e w'=>e=.returned (.int .i64 (Cal.num y m d))/\w=w':=by
 have HF:Hid (Cal.fst y=365*y+(y+3) /4-(y+99) /100+(y+399) /400):=hid rfl;have hb0:0<=365*y+(y+3) /4-(y+99) /100+(y+399) /400:=by omega
 have hb1:365*y+(y+3) /4-(y+99) /100+(y+399) /400<=10000000:=by omega
 go_enter func162,ntmps162;go_wp2_with fail;go_loop [7,8] (fun n i=>∃k c:Int,1<=k/\k<=m/\0<=c/\c<=366/\i=.int .i64 k/\n=.int .i64 (365*y+(y+3) /4-(y+99) /100+(y+399) /400-719528+c)/\Hid (Cal.cum y k=c)) (fun _ i=>(13-intOf i).toNat)
 case atStart=>exact⟨1,0,by omega,by omega,by omega,by omega,rfl,by exact congrArg (Value.int .i64) (by omega),hid rfl⟩
 case round=>
  obtain⟨k,c,hk1,hk2,hc0,hc1,rfl,rfl,HC⟩:=hrel;by_cases hlt:k<m
  ·have db:=Cal.zxk y k;have CS:=hid (Cal.zg7 y k (by omega) (by omega));have cb:=Cal.zxm y (k+1);have CB:=hid cb;clear cb;obtain⟨q,hq⟩:=ex (Cal.dim y k)
   have HQ:Hid (∀W,Calls prog 138 #[.int .i64 y,.int .i64 k] W fun e w'=>e=.returned (.int .i64 q)/\W=w'):=hid (fun W=>by rw[<-hq];exact zd4 y k (by omega) (by omega) W);rw[hq]at db CS;clear hq;go_wp2_with fail;refine(HQ.out _).mono ?_;rintro e w' ⟨rfl,rfl⟩;go_wp2;go_round
   case rel=>exact⟨k+1,c+q,by omega,by omega,by omega,by have:=CS.out;have:=CB.out;have:=HC.out;omega,rfl,by exact congrArg (Value.int .i64) (by omega),hid (by rw[CS.out,HC.out])⟩
   case measure=>simp[intOf];omega
  ·obtain rfl:k=m:=by omega
   have HN:Hid (Cal.num y k d=365*y+(y+3) /4-(y+99) /100+(y+399) /400-719528+c+d-1):=hid (by unfold Cal.num;rw[HF.out,HC.out];omega);go_wp2;go_ret;rw[HN.out];exact⟨rfl,rfl⟩
end Go.Proofs.YtoigpackhninoaaGreatDoor

/- Walks: the calendar of the program. Floats: the word of m * 2^e: plain. Walks: floats, the library's small functions, Ldexp. -/
import Derived.Test.YtoigpackhninoaaGreatDoorZ13
import Derived.Test.YtoigpackhninoaaGreatDoorZ05
import Derived.WalkSpells
import Derived.WalkLawsBesides
import Derived.Handy
import Derived.Laws.FloatArith
import Derived.Lib.TrailingZeros
import Derived.Laws.Bits64b
import Derived.Test.YtoigpackhninoaaGreatDoorZ02
import Derived.IntWalk
import Derived.Deep.DeepCutAuto
namespace Go.Proofs.YtoigpackhninoaaGreatDoor
set_option maxRecDepth 100000
set_option maxHeartbeats 16000000
open Go.RowKit
theorem leap_any (y:Int) (w:World):
 Calls Tryz.prog 183 #[.int .i64 y] w fun e w'=>e=.returned (.bool (Cal.leapB y))/\w=w':=by
 go_enter Tryz.func183,Tryz.ntmps183;go_wp2
 all_goals go_ret
 all_goals exact⟨ret_bool (by simp[Cal.leapB, *]),rfl⟩
theorem length_any (y m:Int) (h1:1<=m) (h2:m<=12) (w:World):
 Calls Tryz.prog 158 #[.int .i64 y,.int .i64 m] w fun e w'=>e=.returned (.int .i64 (Cal.dim y m))/\Below w.heap.size w w':=by
 have hc:m=1\/m=2\/m=3\/m=4\/m=5\/m=6\/m=7\/m=8\/m=9\/m=10\/m=11\/m=12:=by omega
 rcases hc with rfl|rfl|rfl|rfl|rfl|rfl|rfl|rfl|rfl|rfl|rfl|rfl
 all_goals
  go_enter Tryz.func158,Tryz.ntmps158;go_wp2_with (go_at_call 183;refine(leap_any _ _).mono ?_;rintro e w' ⟨rfl,rfl⟩)
  all_goals go_ret
  all_goals exact⟨ret_int (by simp[Cal.dim,Cal.lp, *]),(Below.refl _ _).alloc (Nat.le_refl _) _⟩
theorem first_any (y:Int) (h0:0<=y) (h1:y<=20000) (w:World):
 Calls Tryz.prog 159 #[.int .i64 y] w fun e w'=>e=.returned (.int .i64 (Cal.fst y))/\w=w':=by
 go_enter Tryz.func159,Tryz.ntmps159;go_wp2;go_ret;exact⟨ret_int (by unfold Cal.fst;omega),rfl⟩
theorem ret2_int {k k':IntKind} {a b a' b':Int} (h:a=b) (h':a'=b'):Ending.returned (.tuple #[.int k a,.int k' a'])=.returned (.tuple #[.int k b,.int k' b']):=by rw[h,h']
theorem days_no (y m d:Int) (hv:Cal.vld y m d=false) (w:World):
 Calls Tryz.prog 126 #[.int .i64 y,.int .i64 m,.int .i64 d] w fun e w'=>e=.returned (.tuple #[.int .i64 0,.int .i64 13])/\Below w.heap.size w w':=by
 have hc:y<0\/(0<=y/\9999<y)\/(0<=y/\y<=9999/\m<1)\/(0<=y/\y<=9999/\1<=m/\12<m)\/(0<=y/\y<=9999/\1<=m/\m<=12/\d<1)\/(0<=y/\y<=9999/\1<=m/\m<=12/\1<=d/\Cal.dim y m<d):=by
  simp[Cal.vld]at hv;omega
 clear hv;rcases hc with h|⟨h1,h2⟩|⟨h1,h2,h3⟩|⟨h1,h2,h3,h4⟩|⟨h1,h2,h3,h4,h5⟩|⟨h1,h2,h3,h4,h5,h6⟩
 all_goals
  go_enter Tryz.func126,Tryz.ntmps126;go_wp2_with (go_at_call 158;refine(length_any _ _ (by omega) (by omega) _).mono ?_;rintro e w' ⟨rfl,hb⟩);go_ret2;refine⟨rfl,?_⟩
  first|exact Below.refl _ _|exact hb
theorem days_yes (y m d:Int) (hv:Cal.vld y m d=true) (w:World):
 Calls Tryz.prog 126 #[.int .i64 y,.int .i64 m,.int .i64 d] w fun e w'=>e=.returned (.tuple #[.int .i64 (Cal.num y m d),.int .i64 0])/\Below w.heap.size w w':=by
 have hc:=Cal.vld_of hv;have hd:=Cal.dim_bd y m;have hf:=Cal.fst_bd y (by omega) (by omega);clear hv;obtain⟨h1,h2,h3,h4,h5,h6⟩:=hc;go_enter Tryz.func126,Tryz.ntmps126;go_wp2_with (first| (go_at_call 158;refine(length_any _ _ (by omega) (by omega) _).mono ?_;rintro e w1 ⟨rfl,hb1⟩)| (go_at_call 159;refine(first_any _ (by omega) (by omega) _).mono ?_;rintro e w' ⟨rfl,rfl⟩));go_loopw [8,9] (fun n i wr=>∃k:Int,1<=k/\k<=m/\i=.int .i64 k/\n=.int .i64 (Cal.fst y+d-1-719528+Cal.cum y k)/\Below w.heap.size w wr) (fun _ i _=>(13-intOf i).toNat)
 case atStart=>exact⟨1,by omega,by omega,rfl,by simp[Cal.cum_one],hb1⟩
 case round=>
  obtain⟨k,hk1,hk2,rfl,rfl,hb⟩:=hrel;have hz:=hb.size;by_cases hlt:k<m
  ·have cb:=Cal.cum_bd y k;have db:=Cal.dim_bd y k;have cs:=Cal.cum_succ y k (by omega) (by omega);have CS:=Lib.hid cs;clear cs;go_wp2_with (go_at_call 158;refine(length_any _ _ (by omega) (by omega) _).mono ?_;rintro e w2 ⟨rfl,hb2⟩);go_roundw
   case rel=>exact⟨k+1,by omega,by omega,rfl,by rw[CS.out];exact congrArg (Value.int .i64) (by omega),below_call hb hz hb2⟩
   case measure=>simp[intOf];omega
  ·obtain rfl:k=m:=by omega
   go_wp2;go_ret2;exact⟨ret2_int (by unfold Cal.num;omega) rfl,hb⟩
def DateIs (n:Int) (B:Nat) (w:World) (e:Ending) (w':World):Prop:=
 ∃y m d:Int,e=.returned (.tuple #[.int .i64 y,.int .i64 m,.int .i64 d,.int .i64 0])/\Cal.vld y m d=true/\Cal.num y m d=n/\Below B w w'
theorem date_yes (n:Int) (h1:-719528<=n) (h2:n<=2932896) (w:World):
 Calls Tryz.prog 127 #[.int .i64 n] w (DateIs n w.heap.size w):=by
 have g0:=Cal.fst_guess (n+719528) (by omega);go_enter Tryz.func127,Tryz.ntmps127;go_wp2;go_loop [7] (fun t=>∃y:Int,0<=y/\y<=9999/\Cal.fst y<=n+719528/\t=.int .i64 y) (fun t=>(9999-intOf t).toNat)
 case atStart=>exact⟨_,by omega,by omega,g0,rfl⟩
 case round=>
  obtain⟨y,hy1,hy2,hy3,rfl⟩:=hrel;have hs:=Cal.fst_succ y hy1;have HS:=Lib.hid hs;clear hs g0;have hl:=Cal.lp_01 y;have bd:=Cal.fst_bd y (by omega) (by omega);have bd':=Cal.fst_bd (y+1) (by omega) (by omega);by_cases hc:Cal.fst (y+1)<=n+719528
  ·have hy4:y<9999:=by
    have:=Cal.fst_10000;by_cases e:y=9999
    ·subst e;rw[show(9999:Int)+1=10000 from rfl]at hc;omega
    ·omega
   go_wp2_with (go_at_call 159;refine(first_any _ (by omega) (by omega) _).mono ?_;rintro e w' ⟨rfl,rfl⟩);go_round
   case rel=>exact⟨y+1,by omega,by omega,hc,rfl⟩
   case measure=>simp[intOf];omega
  ·go_wp2_with (go_at_call 159;refine(first_any _ (by omega) (by omega) _).mono ?_;rintro e w' ⟨rfl,rfl⟩);go_loopw [6,8] (fun r k wr=>∃m:Int,1<=m/\m<=12/\k=.int .i64 m/\0<=n+719528-Cal.fst y-Cal.cum y m/\r=.int .i64 (n+719528-Cal.fst y-Cal.cum y m)/\Below w.heap.size w wr) (fun _ k _=>(12-intOf k).toNat)
   case atStart=>exact⟨1,by omega,by omega,rfl,by simp[Cal.cum_one];omega,by simp[Cal.cum_one],Below.refl _ _⟩
   case round=>
    obtain⟨m,hm1,hm2,rfl,hr,rfl,hb⟩:=hrel;have hz:=hb.size;have cb:=Cal.cum_bd y m;have db:=Cal.dim_bd y m;have cs:=Cal.cum_succ y m hm1 hm2;have CS:=Lib.hid cs;clear cs;by_cases hd:Cal.dim y m<=n+719528-Cal.fst y-Cal.cum y m
    ·have hm4:m<12:=by
      by_cases e:m=12
      ·subst e;have h1:=CS.out;have h2:=HS.out;have h3:=Cal.cum_13 y;rw[show(12:Int)+1=13 from rfl]at h1;omega
      ·omega
     go_wp2_with fail;refine(length_any _ _ (by omega) (by omega) _).mono ?_;rintro e w2 ⟨rfl,hb2⟩;have hz2:=hb2.size;go_wp2_with fail;refine(length_any _ _ (by omega) (by omega) _).mono ?_;rintro e w3 ⟨rfl,hb3⟩;go_wp2_with fail;go_roundw
     case rel=>exact⟨m+1,by omega,by omega,rfl,by rw[CS.out];omega,by rw[CS.out];exact congrArg (Value.int .i64) (by omega),below_call (below_call hb hz hb2) (by omega) hb3⟩
     case measure=>simp[intOf];omega
    ·go_wp2_with fail;refine(length_any _ _ (by omega) (by omega) _).mono ?_;rintro e w2 ⟨rfl,hb2⟩;go_wp2_with fail;go_returns;refine⟨y,m,n+719528-Cal.fst y-Cal.cum y m+1,rfl,Cal.vld_mk (by omega),by unfold Cal.num;omega,below_call hb hz hb2⟩
end Go.Proofs.YtoigpackhninoaaGreatDoor
namespace Go.Proofs.YtoigpackhninoaaGreatDoor
namespace Flt
open Ieee
theorem b52:Ieee.double.binade=4503599627370496:=by decide
theorem sgnW:Ieee.double.signWeight=9223372036854775808:=by decide
theorem infR:Ieee.double.infRung=9218868437227405312:=by decide
theorem leastP:Ieee.double.leastPlace=-1074:=by decide
theorem fracB:Ieee.double.fractionBits=52:=rfl
theorem cut0 (neg:Bool) (n:Nat):Toward.even.cut neg n 0=n:=by
 have h:(1:Nat) <<<min 0 (n.log2+2)=1:=by rw[Nat.zero_min];rfl
 unfold Toward.cut;rw[h];simp[Nat.mod_one]
theorem cut_exact (neg:Bool) (K d:Nat) (hK:0<K):Toward.even.cut neg (K*2 ^ d) d=K:=by
 have hp:0<2 ^ d:=Nat.two_pow_pos d;have hl:d<=(K*2 ^ d).log2:=(Nat.le_log2 (by have:=Nat.mul_pos hK hp;omega)).2 (Nat.le_mul_of_pos_left _ hK);have h:(1:Nat) <<<min d ((K*2 ^ d).log2+2)=2 ^ d:=by rw[Nat.min_eq_left (by omega),Nat.shiftLeft_eq,Nat.one_mul]
 unfold Toward.cut;rw[h];simp[Nat.mul_div_cancel _ hp,Nat.mul_mod_left]
theorem near_up (M:Nat) (p last:Int) (hM:M≠0) (hlast:max (p+(M.log2:Int)-52) (-1074)=last) (h:last<=p):Ieee.double.nearest false M p=min ((last+1074).toNat*4503599627370496+M*2 ^ (p-last).toNat) 9218868437227405312:=by
 unfold Format.nearest;rw[if_neg hM,leastP,b52,infR,fracB];simp only[Format.word,Bool.false_eq_true,if_false];rw[show((52:Nat):Int)=52 from rfl,hlast,show(last-p).toNat=0 from by omega,cut0,Nat.shiftLeft_eq,show last- -1074=last+1074 from by omega]
theorem near_down (M K:Nat) (p last:Int) (hM:M≠0) (hlast:max (p+(M.log2:Int)-52) (-1074)=last) (h:p<=last) (hK:M=K*2 ^ (last-p).toNat):Ieee.double.nearest false M p=min ((last+1074).toNat*4503599627370496+K) 9218868437227405312:=by
 unfold Format.nearest;rw[if_neg hM,leastP,b52,infR,fracB];simp only[Format.word,Bool.false_eq_true,if_false];rw[show((52:Nat):Int)=52 from rfl,hlast,show(p-last).toNat=0 from by omega,show last- -1074=last+1074 from by omega,Nat.shiftLeft_eq,Nat.pow_zero,Nat.mul_one,hK,cut_exact];rcases Nat.eq_zero_or_pos K with h0|h0
 ·subst h0;simp at hK;exact absurd hK hM
 ·exact h0
theorem log2_of (m L:Nat) (h1:2 ^ L<=m) (h2:m<2 ^ (L+1)):m.log2=L:=by
 have h0:m≠0:=by have:=Nat.two_pow_pos L;omega
 have a:=(Nat.le_log2 h0).2 h1;have b:=(Nat.log2_lt h0).2 h2;omega
def lastP (L:Nat) (e:Int):Int:=max (e+L-52) (-1074)
def sig (m L:Nat) (e:Int):Nat:=m*2 ^ (e-lastP L e).toNat
def fw (m L:Nat) (e:Int):Nat:=(lastP L e+1074).toNat*4503599627370496+sig m L e
structure Fits (m L:Nat) (e:Int):Prop where
 odd:m%2=1
 lo:2 ^ L<=m
 hi:m<2 ^ (L+1)
 len:L+1<=53
 e0:-1074<=e
 e1:e+L+1<=1024
section
variable {m L:Nat} {e:Int}
theorem Fits.last_le (h:Fits m L e):lastP L e<=e:=by have:=h.len;have:=h.e0;unfold lastP;omega
theorem pow_le_53 (a:Nat) (h:a<=53):2 ^ a<=9007199254740992:=Nat.pow_le_pow_right (n:=2) (by omega) h
theorem Fits.sig_bd (h:Fits m L e):0<sig m L e/\sig m L e<9007199254740992/\(4503599627370496<=sig m L e\/lastP L e=-1074)/\lastP L e<=971/\-1074<=lastP L e:=by
 have h1:=h.len;have h2:=h.e0;have h3:=h.e1;have h4:=h.lo;have h5:=h.hi;have h0:=h.last_le;have hd:L+(e-lastP L e).toNat<=52:=by unfold lastP;omega
 have hm:0<m:=by have:=Nat.two_pow_pos L;omega
 refine⟨Nat.mul_pos hm (Nat.two_pow_pos _),?_,?_,by unfold lastP;omega,by unfold lastP;omega⟩
 ·have:sig m L e<2 ^ (L+1)*2 ^ (e-lastP L e).toNat:=Nat.mul_lt_mul_of_pos_right h5 (Nat.two_pow_pos _);rw[<-Nat.pow_add]at this;exact Nat.lt_of_lt_of_le this (pow_le_53 _ (by omega))
 ·by_cases hc:e+L-52< -1074
  ·right;unfold lastP;omega
  ·left;have he:L+(e-lastP L e).toNat=52:=by unfold lastP;omega
   have:2 ^ L*2 ^ (e-lastP L e).toNat<=sig m L e:=Nat.mul_le_mul_right _ h4;rw[<-Nat.pow_add,he]at this;exact this
theorem Fits.fw_lt (h:Fits m L e):0<fw m L e/\fw m L e<9218868437227405312:=by
 obtain⟨a,b,c,d,f⟩:=h.sig_bd;unfold fw;omega
theorem Fits.read (h:Fits m L e):Ieee.double.read (fw m L e)=.number false (sig m L e) (lastP L e):=by
 obtain⟨a,b,c,d,f⟩:=h.sig_bd;obtain⟨g0,g1⟩:=h.fw_lt;obtain⟨k,hk⟩:∃k:Nat,lastP L e=-1074+k:=⟨(lastP L e+1074).toNat,by omega⟩
 have hf:fw m L e=k*4503599627370496+sig m L e:=by unfold fw;rw[hk,show(-1074+(k:Int)+1074).toNat=k from by omega]
 unfold Format.read;rw[sgnW,b52,infR,leastP];have e1:fw m L e /9223372036854775808=0:=Nat.div_eq_of_lt (by omega);have e2:fw m L e%9223372036854775808=fw m L e:=Nat.mod_eq_of_lt (by omega);rw[e1,e2];simp only[Nat.zero_mod];rw[hk,hf];rw[hf]at g0 g1;by_cases hn:k*4503599627370496+sig m L e<4503599627370496
 ·have:k=0:=by omega
  subst this;rw[if_pos hn];simp
 ·rw[if_neg hn,if_pos g1];have c2:4503599627370496<=sig m L e:=by rcases c with c|c<;>omega
  have e3:(k*4503599627370496+sig m L e)%4503599627370496=sig m L e-4503599627370496:=by omega
  have e4:(k*4503599627370496+sig m L e) /4503599627370496=k+1:=by omega
  rw[e3,e4,show 4503599627370496+(sig m L e-4503599627370496)=sig m L e from by omega,show k+1-1=k from by omega];simp
theorem Fits.ofNat (h:Fits m L e):floatOfInt .f64 (m:Int)=(L+1022)*4503599627370496+m*2 ^ (52-L):=by
 have h1:=h.len;have h4:=h.lo;have h5:=h.hi;have hm:m≠0:=by have:=Nat.two_pow_pos L;omega
 have hl:=log2_of m L h4 h5;unfold floatOfInt FloatKind.nearest FloatKind.encode FloatKind.format;simp only[Format.write];rw[show decide ((m:Int)<0)=false from by simp,Int.natAbs_natCast,near_up m 0 ((L:Int)-52) hm (by rw[hl];omega) (by omega)];have e1:((L:Int)-52+1074).toNat=L+1022:=by omega
 have e2:(0-((L:Int)-52)).toNat=52-L:=by omega
 rw[e1,e2];have:m*2 ^ (52-L)<9007199254740992:=by
  have:m*2 ^ (52-L)<2 ^ (L+1)*2 ^ (52-L):=Nat.mul_lt_mul_of_pos_right h5 (Nat.two_pow_pos _);rw[<-Nat.pow_add,show L+1+(52-L)=53 from by omega]at this;exact this
 omega
theorem Fits.full (h:Fits m L e):4503599627370496<=m*2 ^ (52-L)/\m*2 ^ (52-L)<9007199254740992:=by
 have h1:=h.len;have h4:=h.lo;have h5:=h.hi;constructor
 ·have:2 ^ L*2 ^ (52-L)<=m*2 ^ (52-L):=Nat.mul_le_mul_right _ h4;rw[<-Nat.pow_add,show L+(52-L)=52 from by omega]at this;exact this
 ·have:m*2 ^ (52-L)<2 ^ (L+1)*2 ^ (52-L):=Nat.mul_lt_mul_of_pos_right h5 (Nat.two_pow_pos _);rw[<-Nat.pow_add,show L+1+(52-L)=53 from by omega]at this;exact this
theorem read_norm (k s:Nat) (hk:1<=k) (hk2:k<=2046) (hs:4503599627370496<=s) (hs2:s<9007199254740992):Ieee.double.read (k*4503599627370496+(s-4503599627370496))=.number false s ((k:Int)-1075):=by
 unfold Format.read;rw[sgnW,b52,infR,leastP];have e1:(k*4503599627370496+(s-4503599627370496)) /9223372036854775808=0:=Nat.div_eq_of_lt (by omega);have e2:(k*4503599627370496+(s-4503599627370496))%9223372036854775808=k*4503599627370496+(s-4503599627370496):=Nat.mod_eq_of_lt (by omega);have e3:(k*4503599627370496+(s-4503599627370496))%4503599627370496=s-4503599627370496:=by omega
 have e4:(k*4503599627370496+(s-4503599627370496)) /4503599627370496=k:=by omega
 simp only[e1,e2,e3,e4,Nat.zero_mod];rw[if_neg (by omega),if_pos (by omega),show 4503599627370496+(s-4503599627370496)=s from by omega,show -1074+((k-1:Nat):Int)=(k:Int)-1075 from by omega];rfl
theorem Fits.mul_one (h:Fits m L e) (hn:-1022<=e+L):Ieee.double.mul 4607182418800017408 ((e+L+1023).toNat*4503599627370496+(m*2 ^ (52-L)-4503599627370496))=some (fw m L e):=by
 obtain⟨f1,f2⟩:=h.full;have h1:=h.len;have h2:=h.e0;have h3:=h.e1;obtain⟨g0,g1⟩:=h.fw_lt;have r1:=read_norm 1023 4503599627370496 (by omega) (by omega) (by omega) (by omega);rw[show 1023*4503599627370496+(4503599627370496-4503599627370496)=4607182418800017408 from rfl]at r1;have r2:=read_norm (e+L+1023).toNat (m*2 ^ (52-L)) (by omega) (by omega) f1 f2;unfold Format.mul;rw[r1,r2];simp only[Datum.product,Option.map_some,Format.write,Bool.false_xor];generalize hS:m*2 ^ (52-L)=S at *;have hl:(4503599627370496*S).log2=104:=log2_of _ _ (by omega) (by omega);have hlp:lastP L e=e+L-52:=by unfold lastP;omega
 have hsg:sig m L e=S:=by unfold sig;rw[hlp,show(e-(e+↑L-52)).toNat=52-L from by omega,hS]
 rw[near_down (4503599627370496*S) S _ (e+L-52) (by omega) (by rw[hl];omega) (by omega) (by rw[show(e+(L:Int)-52-(((1023:Nat):Int)-1075+(((e+L+1023).toNat:Int)-1075))).toNat=52 from by omega,Nat.mul_comm])];unfold fw at g1 ⊢;rw[hlp,hsg]at g1 ⊢;refine congrArg some ?_;exact Nat.min_eq_left (by omega)
theorem Fits.mul_small (h:Fits m L e) (hn:e+L< -1022):Ieee.double.mul 4368491638549381120 ((e+L+1076).toNat*4503599627370496+(m*2 ^ (52-L)-4503599627370496))=some (fw m L e):=by
 obtain⟨f1,f2⟩:=h.full;have h1:=h.len;have h2:=h.e0;have h3:=h.e1;obtain⟨g0,g1⟩:=h.fw_lt;have r1:=read_norm 970 4503599627370496 (by omega) (by omega) (by omega) (by omega);rw[show 970*4503599627370496+(4503599627370496-4503599627370496)=4368491638549381120 from rfl]at r1;have r2:=read_norm (e+L+1076).toNat (m*2 ^ (52-L)) (by omega) (by omega) f1 f2;unfold Format.mul;rw[r1,r2];simp only[Datum.product,Option.map_some,Format.write,Bool.false_xor];have hlp:lastP L e=-1074:=by unfold lastP;omega
 obtain⟨q,hq⟩:∃q:Nat,e=-1074+q:=⟨(e+1074).toNat,by omega⟩
 have hsg:sig m L e=m*2 ^ q:=by unfold sig;rw[hlp,show(e- -1074).toNat=q from by omega]
 have hM:4503599627370496*(m*2 ^ (52-L))=m*2 ^ q*2 ^ (104-L-q):=by
  rw[show(4503599627370496:Nat)=2 ^ 52 from by decide,<-Nat.mul_assoc,Nat.mul_comm (2 ^ 52) m,Nat.mul_assoc,<-Nat.pow_add,Nat.mul_assoc,<-Nat.pow_add,show 52+(52-L)=q+(104-L-q)from by omega]
 have hl:(4503599627370496*(m*2 ^ (52-L))).log2=104:=log2_of _ _ (by omega) (by omega);rw[near_down _ (m*2 ^ q) (((970:Nat):Int)-1075+(((e+L+1076).toNat:Int)-1075)) (-1074) (by omega) (by rw[hl];omega) (by omega) (by rw[hM,show((-1074:Int)-(((970:Nat):Int)-1075+(((e+L+1076).toNat:Int)-1075))).toNat=104-L-q from by omega])];unfold fw at g1 ⊢;rw[hlp,hsg]at g1 ⊢;refine congrArg some ?_;exact Nat.min_eq_left (by omega)
theorem Fits.order_self (h:Fits m L e):Ieee.double.order (fw m L e) (fw m L e)=some .eq:=by
 unfold Format.order;rw[h.read];simp[Datum.order]
theorem Fits.order_zero (h:Fits m L e):Ieee.double.order (fw m L e) 0=some .gt:=by
 obtain⟨a,b,c,d,f⟩:=h.sig_bd;unfold Format.order;have r0:Ieee.double.read 0=.number false 0 (-1074):=by decide
 rw[h.read,r0];simp only[Datum.order,signed,Bool.false_eq_true,if_false,Nat.zero_shiftLeft];rw[show min (lastP L e) (-1074)=-1074 from by omega,Nat.shiftLeft_eq];have:0<sig m L e*2 ^ (lastP L e- -1074).toNat:=Nat.mul_pos a (Nat.two_pow_pos _);generalize sig m L e*2 ^ (lastP L e- -1074).toNat=N at this;simp only[compare,compareOfLessAndEq];rw[if_neg (by omega),if_neg (by omega)]
theorem Fits.order_max (h:Fits m L e):Ieee.double.order (fw m L e) 9218868437227405311=some .lt\/Ieee.double.order (fw m L e) 9218868437227405311=some .eq:=by
 obtain⟨a,b,c,d,f⟩:=h.sig_bd;unfold Format.order;have r0:Ieee.double.read 9218868437227405311=.number false 9007199254740991 971:=by decide
 rw[h.read,r0];simp only[Datum.order,signed,Bool.false_eq_true,if_false];rw[show min (lastP L e) 971=lastP L e from by omega,show(lastP L e-lastP L e).toNat=0 from by omega,Nat.shiftLeft_zero,Nat.shiftLeft_eq];have:sig m L e<=9007199254740991*2 ^ (971-lastP L e).toNat:=Nat.le_trans (by omega) (Nat.le_mul_of_pos_right 9007199254740991 (Nat.two_pow_pos _));generalize 9007199254740991*2 ^ (971-lastP L e).toNat=N at this;simp only[compare,compareOfLessAndEq];by_cases h:(sig m L e:Int)<(N:Int)
 ·rw[if_pos h];exact .inl rfl
 ·rw[if_neg h,if_pos (by omega)];exact .inr rfl
theorem Fits.fields (h:Fits m L e):∃z:Nat,z<=52/\sig m L e=m*2 ^ z/\e=lastP L e+z/\
 ((fw m L e /4503599627370496=0/\fw m L e%4503599627370496=m*2 ^ z/\e=-1074+z)\/(∃k:Nat,fw m L e /4503599627370496=k+1/\k+1<=2046/\fw m L e%4503599627370496+4503599627370496=m*2 ^ z/\e=(k:Int)-1074+z)):=by
 obtain⟨a,b,c,d,f⟩:=h.sig_bd;have h1:=h.len;have h2:=h.e0;have h3:=h.e1;have h0:=h.last_le;refine⟨(e-lastP L e).toNat,by unfold lastP;omega,rfl,by omega,?_⟩;obtain⟨k,hk⟩:∃k:Nat,lastP L e=-1074+k:=⟨(lastP L e+1074).toNat,by omega⟩
 have hf:fw m L e=k*4503599627370496+sig m L e:=by unfold fw;rw[hk,show(-1074+(k:Int)+1074).toNat=k from by omega]
 have hs:m*2 ^ (e-lastP L e).toNat=sig m L e:=rfl;rw[hs,hf];by_cases hn:sig m L e<4503599627370496
 ·left;have:k=0:=by omega
  subst this;refine⟨by omega,by omega,by omega⟩
 ·right;exact⟨k,by omega,by omega,by omega,by omega⟩
theorem ctz_of (m z:Nat) (hm:m%2=1) (hz:m*2 ^ z<18446744073709551616):Lib.ctz 64 (m*2 ^ z)=z:=by
 have hp:0<m*2 ^ z:=Nat.mul_pos (by omega) (Nat.two_pow_pos _);obtain⟨q,hq,_⟩:=Lib.ctzFrom_spec 64 (m*2 ^ z) hp hz;unfold Lib.ctz;rw[if_neg (by omega)];generalize Lib.ctzFrom 64 (m*2 ^ z)=c at hq;rcases Nat.lt_trichotomy c z with h|h|h
 ·obtain⟨d,rfl⟩:∃d,z=c+(d+1):=⟨z-c-1,by omega⟩
  rw[Nat.pow_add,Nat.mul_left_comm]at hq;have:=Nat.eq_of_mul_eq_mul_left (Nat.two_pow_pos c) hq;rw[Nat.pow_succ,<-Nat.mul_assoc]at this;omega
 ·exact h
 ·obtain⟨d,rfl⟩:∃d,c=z+(d+1):=⟨c-z-1,by omega⟩
  rw[Nat.pow_add,Nat.mul_assoc,Nat.mul_comm m]at hq;have:=Nat.eq_of_mul_eq_mul_left (Nat.two_pow_pos z) hq;rw[Nat.pow_succ,Nat.mul_assoc,Nat.mul_left_comm]at this;omega
end
end Flt
theorem bits_andNot_u64_nat (a b:Nat) (ha:a<18446744073709551616) (hb:b<18446744073709551616):
 bits .andNot .u64 (a:Int) (b:Int)=((a &&& (18446744073709551615-b):Nat):Int):=by
 have hx:a &&& (18446744073709551615-b)<2 ^ 64:=Nat.and_lt_two_pow _ (by omega);have h1:(BitVec.ofInt 64 (a:Int)).toNat=a:=by
  rw[BitVec.ofInt_natCast,BitVec.toNat_ofNat];exact Nat.mod_eq_of_lt (by omega)
 have h2:(BitVec.ofInt 64 (b:Int)).toNat=b:=by
  rw[BitVec.ofInt_natCast,BitVec.toNat_ofNat];exact Nat.mod_eq_of_lt (by omega)
 show IntKind.u64.wrap ((BitVec.ofInt 64 (a:Int) &&& ~~~ BitVec.ofInt 64 (b:Int)).toNat:Int)=_;rw[BitVec.toNat_and,BitVec.toNat_not,h1,h2,IntKind.wrap_u64];rw[show 2 ^ 64-1-b=18446744073709551615-b from by omega];omega
theorem and_mask (a n:Nat):a &&& (2 ^ n-1)=a%2 ^ n:=Nat.and_two_pow_sub_one_eq_mod a n
theorem and_top (a n:Nat) (h:a<2 ^ n):a &&& 2 ^ n=0:=by
 apply Nat.eq_of_testBit_eq;intro i;rw[Nat.testBit_and,Nat.testBit_two_pow,Nat.zero_testBit];by_cases hi:n=i
 ·subst hi;rw[Nat.testBit_lt_two_pow h];rfl
 ·simp[hi]
theorem or_low (f k n:Nat) (h:f<2 ^ n):f ||| (k*2 ^ n)=f+k*2 ^ n:=by
 rw[Nat.or_comm,Nat.mul_comm,<-Nat.two_pow_add_eq_or_of_lt h,Nat.add_comm]
theorem andNot_sign (a:Nat) (h:a<9223372036854775808):bits .andNot .u64 (a:Int) 9223372036854775808=(a:Int):=by
 have:=bits_andNot_u64_nat a 9223372036854775808 (by omega) (by omega);rw[show(18446744073709551615-9223372036854775808:Nat)=2 ^ 63-1 from by decide,and_mask,Nat.mod_eq_of_lt (by omega)]at this;exact this
theorem and_frac (a:Nat) (h:a<18446744073709551616):bits .and .u64 (a:Int) 4503599627370495=((a%4503599627370496:Nat):Int):=by
 have:=bits_and_u64_nat a 4503599627370495 h (by omega);rw[show(4503599627370495:Nat)=2 ^ 52-1 from by decide,and_mask]at this;exact this
theorem andNot_exp (a:Nat) (h:a<9223372036854775808):bits .andNot .u64 (a:Int) 9218868437227405312=((a%4503599627370496:Nat):Int):=by
 have:=bits_andNot_u64_nat a 9218868437227405312 (by omega) (by omega);rw[show(18446744073709551615-9218868437227405312:Nat)=(2 ^ 52-1) ||| 2 ^ 63 from by decide,Nat.and_or_distrib_left,and_mask,and_top a 63 (by omega),Nat.or_zero]at this;exact this
theorem or_exp (f k:Nat) (h:f<4503599627370496) (hk:k<4096):bits .or .u64 (f:Int) ((k*4503599627370496:Nat):Int)=((k*4503599627370496+f:Nat):Int):=by
 have:=bits_or_u64_nat f (k*4503599627370496) (by omega) (by omega);rw[show f |||k*4503599627370496=f+k*4503599627370496 from or_low f k 52 h,Nat.add_comm]at this;exact this
theorem or_one (f:Nat) (h:f<4503599627370496):bits .or .u64 (f:Int) 4503599627370496=((f+4503599627370496:Nat):Int):=by
 have:=or_exp f 1 h (by omega);rw[Nat.one_mul,Nat.add_comm]at this;exact this
theorem and_i64 (k:Nat) (h:k<2048):bits .and .i64 (k:Int) 2047=(k:Int):=by
 have h1:(BitVec.ofInt 64 (k:Int)).toNat=k:=by
  rw[BitVec.ofInt_natCast,BitVec.toNat_ofNat];exact Nat.mod_eq_of_lt (by omega)
 have h2:(BitVec.ofInt 64 (2047:Int)).toNat=2047:=by decide
 show IntKind.i64.wrap ((BitVec.ofInt 64 (k:Int) &&& BitVec.ofInt 64 2047).toNat:Int)=_;rw[BitVec.toNat_and,h1,h2,show(2047:Nat)=2 ^ 11-1 from by decide,and_mask,Nat.mod_eq_of_lt (by omega)];simp[IntKind.wrap,IntKind.signed,IntKind.bits];omega
end Go.Proofs.YtoigpackhninoaaGreatDoor
namespace Go.Proofs.YtoigpackhninoaaGreatDoor
set_option maxRecDepth 100000
set_option maxHeartbeats 16000000
open Go.RowKit
theorem call_bits (f:Nat) (w:World):(callFunc 157 #[.float .f64 f]).run Tryz.prog w=.ok (.value (.int .u64 f)) w:=by
 rw[run_callFunc_extern Tryz.func157 (by kernel_rfl) (by kernel_rfl) (by kernel_rfl) (e:=Extern.MathFloatBits.float64bits) (by kernel_rfl)];rfl
theorem call_frombits (n:Int) (w:World):(callFunc 147 #[.int .u64 n]).run Tryz.prog w=.ok (.value (.float .f64 n.toNat)) w:=by
 rw[run_callFunc_extern Tryz.func147 (by kernel_rfl) (by kernel_rfl) (by kernel_rfl) (e:=Extern.MathFloatBits.float64frombits) (by kernel_rfl)];rfl
theorem fabs_any (f:Nat) (hf:f<9223372036854775808) (w:World):Calls Tryz.prog 180 #[.float .f64 f] w fun e w'=>e=.returned (.float .f64 f)/\w=w':=by
 have c1:=fun W=>call_bits f W
 have c2:=fun W=>call_frombits (f:Int) W
 have c3:=andNot_sign f hf;go_enter Tryz.func180,Tryz.ntmps180;go_wp2_with fail;go_ret;exact⟨rfl,rfl⟩
theorem fsign_any (f:Nat) (hf:f<9223372036854775808) (w:World):Calls Tryz.prog 153 #[.float .f64 f] w fun e w'=>e=.returned (.bool false)/\w=w':=by
 have c1:=fun W=>call_bits f W
 have h0:(0:Int)<=(f:Int):=by omega
 have h1:(f:Int)<=9223372036854775807:=by omega
 have h2:IntKind.i64.wrap (f:Int)=(f:Int):=IntWalk.i64_in _ (by omega);have h3:decide ((f:Int)<0)=false:=by simp
 go_enter Tryz.func153,Tryz.ntmps153;go_wp2_with fail;go_ret;exact⟨rfl,rfl⟩
theorem finf_any (f:Nat) (hf:f<9223372036854775808) (ho:(FloatKind.f64.format.order f 9218868437227405311==some Ordering.gt)=false) (w:World):Calls Tryz.prog 154 #[.float .f64 f,.int .i64 0] w fun e w'=>e=.returned (.bool false)/\w=w':=by
 have HA:=Lib.hid (fun W=>fabs_any f hf W);go_enter Tryz.func154,Tryz.ntmps154;go_wp2_with fail;refine(HA.out _).mono ?_;rintro e w1 ⟨rfl,rfl⟩;go_wp2_with fail;go_ret;exact⟨rfl,rfl⟩
theorem fnan_any (f:Nat) (ho:(FloatKind.f64.format.order f f != some Ordering.eq)=false) (w:World):Calls Tryz.prog 178 #[.float .f64 f] w fun e w'=>e=.returned (.bool false)/\w=w':=by
 go_enter Tryz.func178,Tryz.ntmps178;go_wp2_with fail;go_ret;exact⟨rfl,rfl⟩
theorem fnorm_any (f:Nat) (hf:f<9223372036854775808) (ho:(FloatKind.f64.format.order f 4503599627370496==some Ordering.lt)=false) (w:World):Calls Tryz.prog 179 #[.float .f64 f] w fun e w'=>e=.returned (.tuple #[.float .f64 f,.int .i64 0])/\w=w':=by
 have HA:=Lib.hid (fun W=>fabs_any f hf W);go_enter Tryz.func179,Tryz.ntmps179;go_wp2_with fail;refine(HA.out _).mono ?_;rintro e w1 ⟨rfl,rfl⟩;go_wp2_with fail;go_ret2;exact⟨rfl,rfl⟩
namespace Flt
section
variable {m L:Nat} {e:Int}
theorem Fits.o_max (h:Fits m L e):(FloatKind.f64.format.order (fw m L e) 9218868437227405311==some Ordering.gt)=false:=by
 show(Ieee.double.order (fw m L e) 9218868437227405311==some Ordering.gt)=false;rcases h.order_max with h1|h1<;>rw[h1]<;>rfl
theorem Fits.o_self (h:Fits m L e):(FloatKind.f64.format.order (fw m L e) (fw m L e) != some Ordering.eq)=false:=by
 show(Ieee.double.order (fw m L e) (fw m L e) != some Ordering.eq)=false;rw[h.order_self];rfl
theorem Fits.o_zero (h:Fits m L e):(FloatKind.f64.format.order (fw m L e) 0==some Ordering.eq)=false:=by
 show(Ieee.double.order (fw m L e) 0==some Ordering.eq)=false;rw[h.order_zero];rfl
theorem Fits.at0 (h:Fits m L e):Fits m L 0:=⟨h.odd,h.lo,h.hi,h.len,by omega,by have:=h.len;omega⟩
theorem Fits.o_norm (h:Fits m L 0):(FloatKind.f64.format.order (fw m L 0) 4503599627370496==some Ordering.lt)=false:=by
 show(Ieee.double.order (fw m L 0) 4503599627370496==some Ordering.lt)=false;obtain⟨a,b,c,d,f⟩:=h.sig_bd;have hlen:=h.len;have hlp:lastP L 0=(L:Int)-52:=by unfold lastP;omega
 have c2:4503599627370496<=sig m L 0:=by rcases c with c|c<;>omega
 unfold Ieee.Format.order;have r0:Ieee.double.read 4503599627370496=.number false 4503599627370496 (-1074):=by decide
 rw[h.read,r0];simp only[Ieee.Datum.order,Ieee.signed,Bool.false_eq_true,if_false];rw[show min (lastP L 0) (-1074)=-1074 from by omega,show((-1074:Int)- -1074).toNat=0 from rfl,Nat.shiftLeft_zero,Nat.shiftLeft_eq];have:sig m L 0<=sig m L 0*2 ^ (lastP L 0- -1074).toNat:=Nat.le_mul_of_pos_right _ (Nat.two_pow_pos _);generalize sig m L 0*2 ^ (lastP L 0- -1074).toNat=N at this;simp only[compare,compareOfLessAndEq];rw[if_neg (by omega)];split<;>rfl
theorem Fits.fw0 (h:Fits m L 0):fw m L 0=(L+1022)*4503599627370496+m*2 ^ (52-L):=by
 have hlen:=h.len;have hlp:lastP L 0=(L:Int)-52:=by unfold lastP;omega
 unfold fw sig;rw[hlp,show((L:Int)-52+1074).toNat=L+1022 from by omega,show(0-((L:Int)-52)).toNat=52-L from by omega]
theorem Fits.parts0 (h:Fits m L 0):fw m L 0 /4503599627370496=L+1023/\fw m L 0%4503599627370496=m*2 ^ (52-L)-4503599627370496:=by
 obtain⟨f1,f2⟩:=h.full;rw[h.fw0];omega
end
end Flt
open Flt in
theorem ldexp_any (m L:Nat) (e:Int) (h:Flt.Fits m L e) (f:Nat) (hf:fw m L 0=f) (w:World):Calls Tryz.prog 152 #[.float .f64 f,.int .i64 e] w fun r w'=>r=.returned (.float .f64 (fw m L e))/\w=w':=by
 have h0:=h.at0;have hlt:=h0.fw_lt.2;have o1:=h0.o_zero;have HI:=Lib.hid (fun W=>finf_any f (by omega) (by rw[<-hf];exact h0.o_max) W);have HN:=Lib.hid (fun W=>fnan_any f (by rw[<-hf];exact h0.o_self) W);have HO:=Lib.hid (fun W=>fnorm_any f (by omega) (by rw[<-hf];exact h0.o_norm) W);obtain⟨pk,pq⟩:=h0.parts0;rw[hf]at o1 pk pq hlt;have c1:=fun W=>call_bits f W
 have hlen:=h.len;have he0:=h.e0;have he1:=h.e1;have HX:=Lib.hid h;have i1:(f:Int) /4503599627370496=(L:Int)+1023:=by omega
 have i2:IntKind.i64.wrap ((L:Int)+1023)=(L:Int)+1023:=IntWalk.i64_in _ (by omega);have i3:bits .and .i64 ((L:Int)+1023) 2047=(L:Int)+1023:=by have:=and_i64 (L+1023) (by omega);simpa using this
 have i4:bits .andNot .u64 (f:Int) 9218868437227405312=((m*2 ^ (52-L)-4503599627370496:Nat):Int):=by rw[andNot_exp f (by omega),pq]
 have hq:m*2 ^ (52-L)-4503599627370496<4503599627370496:=by omega
 by_cases hn:-1022<=e+L
 ·obtain⟨X,hX⟩:∃X,(e+L+1023).toNat*4503599627370496+(m*2 ^ (52-L)-4503599627370496)=X:=⟨_,rfl⟩
  have hM:=HX.out.mul_one hn;have i5:bits .or .u64 ((m*2 ^ (52-L)-4503599627370496:Nat):Int) ((e+(L:Int)+1023)*4503599627370496)=(X:Int):=by
   have:=or_exp (m*2 ^ (52-L)-4503599627370496) (e+L+1023).toNat hq (by omega);rw[hX]at this;rw[show(e+(L:Int)+1023)*4503599627370496=(((e+L+1023).toNat*4503599627370496:Nat):Int)from by omega];exact this
  rw[hX]at hM;have c2:=fun W=>call_frombits (X:Int) W
  have c3:=fun W=>run_float_arith (P:=Tryz.prog) (w:=W) .mul 128 .f64 4607182418800017408 X (fw m L e) hM
  obtain⟨Q,hQ⟩:∃Q,m*2 ^ (52-L)-4503599627370496=Q:=⟨_,rfl⟩
  rw[hQ]at i4 i5;clear h h0 hf pk pq hq hX hM hQ;go_enter Tryz.func152,Tryz.ntmps152;go_wp2_with (first| ((with_reducible refine(HI.out _).mono ?_);rintro _ _ ⟨rfl,rfl⟩)| ((with_reducible refine(HN.out _).mono ?_);rintro _ _ ⟨rfl,rfl⟩)| ((with_reducible refine(HO.out _).mono ?_);rintro _ _ ⟨rfl,rfl⟩));go_ret;exact⟨rfl,rfl⟩
 ·obtain⟨X,hX⟩:∃X,(e+L+1076).toNat*4503599627370496+(m*2 ^ (52-L)-4503599627370496)=X:=⟨_,rfl⟩
  have hM:=HX.out.mul_small (by omega);have i5:bits .or .u64 ((m*2 ^ (52-L)-4503599627370496:Nat):Int) ((e+(L:Int)+53+1023)*4503599627370496)=(X:Int):=by
   have:=or_exp (m*2 ^ (52-L)-4503599627370496) (e+L+1076).toNat hq (by omega);rw[hX]at this;rw[show(e+(L:Int)+53+1023)*4503599627370496=(((e+L+1076).toNat*4503599627370496:Nat):Int)from by omega];exact this
  rw[hX]at hM;have c2:=fun W=>call_frombits (X:Int) W
  have c3:=fun W=>run_float_arith (P:=Tryz.prog) (w:=W) .mul 128 .f64 4368491638549381120 X (fw m L e) hM
  obtain⟨Q,hQ⟩:∃Q,m*2 ^ (52-L)-4503599627370496=Q:=⟨_,rfl⟩
  rw[hQ]at i4 i5;clear h h0 hf pk pq hq hX hM hQ;go_enter Tryz.func152,Tryz.ntmps152;go_wp2_with (first| ((with_reducible refine(HI.out _).mono ?_);rintro _ _ ⟨rfl,rfl⟩)| ((with_reducible refine(HN.out _).mono ?_);rintro _ _ ⟨rfl,rfl⟩)| ((with_reducible refine(HO.out _).mono ?_);rintro _ _ ⟨rfl,rfl⟩));go_ret;exact⟨rfl,rfl⟩
end Go.Proofs.YtoigpackhninoaaGreatDoor

import Derived.Test.YtpjmhafmeieloabGreatDoorZ13
import Derived.Test.YtpjmhafmeieloabGreatDoorZ05
import Derived.Test.YtpjmhafmeieloabGreatDoorZ03
import Derived.Test.YtpjmhafmeieloabGreatDoorGrCiv
namespace Go.Proofs.YtpjmhafmeieloabGreatDoor
open Gr
open _root_.Go.Proofs.Tryz
open _root_.Go.Lib (hid)
set_option maxRecDepth 100000
set_option maxHeartbeats 16000000
open Go.RowKit
theorem zov (x:Gr.Dn) (A:Option Addr) (c:Nat) (hl:x.d.length<=1073741823) (w:World):
 Calls prog 71 #[.agg #[.bool x.neg,.slice A x.d.length c,.int .i64 x.e]] w fun e w'=>e=.returned (.int .i64 (lim x:Nat))/\Below w.heap.size w w':=by
 obtain⟨neg,d,e⟩:=x;simp only at hl ⊢;have g:Below w.heap.size w (w.alloc (.cells #[.bool neg,.slice A d.length c,.int .i64 e] 87)):=(Below.refl _ _).alloc (Nat.le_refl _) _;have b:=hid g;clear g;by_cases h1:400<d.length
 .have a:Hid (lim ⟨neg,d,e⟩=6):=hid (by unfold lim;rw[if_pos h1]);have f:(400:Int)<(d.length:Int):=by omega
  go_enter func71,ntmps71;go_wp2;go_ret;rw[a.out];exact⟨rfl,b.out⟩
 .have f:¬(400:Int)<(d.length:Int):=by omega
  by_cases h2:e< -2000
  .have a:Hid (lim ⟨neg,d,e⟩=2):=hid (by unfold lim;rw[if_neg h1,if_pos (.inl h2)]);go_enter func71,ntmps71;go_wp2;go_ret;rw[a.out];exact⟨rfl,b.out⟩
  .by_cases h3:2000<e
   .have a:Hid (lim ⟨neg,d,e⟩=2):=hid (by unfold lim;rw[if_neg h1,if_pos (.inr h3)]);go_enter func71,ntmps71;go_wp2;go_ret;rw[a.out];exact⟨rfl,b.out⟩
   .have a:Hid (lim ⟨neg,d,e⟩=0):=hid (by unfold lim;rw[if_neg h1,if_neg (fun h=>h.elim h2 h3)]);go_enter func71,ntmps71;go_wp2;go_ret;rw[a.out];exact⟨rfl,b.out⟩
def signS (neg:Bool):Gr.Str:=if neg=true then[45]else[]
theorem zsi (neg:Bool) (A:Option Addr) (n c:Nat) (e:Int) (w:World):
 Calls prog 131 #[.agg #[.bool neg,.slice A n c,.int .i64 e]] w fun e' w'=>e'=.returned (.string ⟨(signS neg).toArray⟩)/\Below w.heap.size w w':=by
 have a:Below w.heap.size w (w.alloc (.cells #[.bool neg,.slice A n c,.int .i64 e] 87)):=(Below.refl _ _).alloc (Nat.le_refl _) _;have b:=hid a;clear a;cases neg
 all_goals
  go_enter func131,ntmps131;go_wp2;go_ret;exact⟨rfl,b.out⟩
theorem zdv (w:World) (s:List UInt8) (A:Option Addr) (c:Nat) {B:Nat} (h:RowAt byteL w B A s):(convert 81 9 (.slice A s.length c)).run prog w=.ok (.string ⟨s.toArray⟩) w:=by
 cases s with
 |nil=>
  cases A with
  |none=>exact run_convert_bytes_nil (P:=prog) w 81 5 underlying81 underlying5 0 c 9 underlying9
  |some a=>exact run_convert_bytes_back (P:=prog) w 81 9 5 a c [] underlying81 underlying5 underlying9 (fun j d=>by simp at d)
 |cons b r=>
  obtain⟨f,rfl,_,_⟩:=h.get (k:=0) (by simp);refine run_convert_bytes_back (P:=prog) w 81 9 5 f c (b::r) underlying81 underlying5 underlying9 (fun j d=>?_);obtain⟨ad',e,_,g,_⟩:=h.get d;cases e;have:=g _ rfl;simpa[byteL]using this
theorem zl0 (neg:Bool) (A:Option Addr) (d:List Nat) (c:Nat) (E:Int) (hl:d.length<=1073741823) (hd:∀v∈d,v<10) (w:World) (h:RowAt byteL w w.heap.size A (d8 d)):
 Calls prog 132 #[.agg #[.bool neg,.slice A d.length c,.int .i64 E]] w fun e' w'=>e'=.returned (.string ⟨(d.map Gr.ch).toArray⟩)/\Below w.heap.size w w':=by
 have H:=fun W=>zcu d.length (by omega) W
 have P:=hid hd;have m:=hid h;clear hd h;go_enter func132,ntmps132;go_upto_region 2 with fail;obtain⟨F,f⟩:=ex (w.alloc (.cells #[.bool neg,.slice A d.length c,.int .i64 E] 87))
 have s:Blk F w.heap.size 87 #[.bool neg,.slice A d.length c,.int .i64 E]:=by rw[<-f];exact Blk.new _ _ _
 have n:Below w.heap.size w F:=by rw[<-f];exact(Below.refl _ _).alloc (Nat.le_refl _) _
 have b:F.heap.size=w.heap.size+1:=by rw[<-f];simp
 obtain⟨a,g⟩:=ex w.heap.size
 (try rw[f]);(try rw[g]);rw[g]at s n b m;obtain⟨u,l⟩:=ex (F.alloc (.cells (ucells (List.replicate d.length 0)) 5))
 have x:Blk u (a+1) 5 (ucells (List.replicate d.length 0)):=by rw[<-l,<-b];exact Blk.new _ _ _
 have o:Below (a+1) F u:=by rw[<-l,<-b];exact(Below.refl _ _).alloc (Nat.le_refl _) _
 have t:Hid (Blk u a 87 #[.bool neg,.slice A d.length c,.int .i64 E]/\Blk u (a+1) 5 (ucells (List.replicate d.length 0))/\Below a w u):=hid ⟨s.below o (by omega),x,n.trans (o.mono (by omega))⟩;have I:=hid g;(try rw[b]);(try rw[l]);clear f g s n b l x o H;have O:u.cell? ⟨a,1,none⟩=some (.slice A d.length c):=t.out.1.cell 1;go_wp2_with fail;clear O;go_loopw [13] (fun s13 wr=>∃k:Nat,k<=d.length/\s13=.int .i64 k/\Hid (Blk wr (a+1) 5 (ucells ((d.take k).map Gr.ch++List.replicate (d.length-k) 0))/\Below a w wr)) (fun s13 _=>d.length-(intOf s13).toNat)
 case atStart=>exact⟨0,by omega,rfl,hid ⟨by simpa using t.out.2.1,t.out.2.2⟩⟩
 case round=>
  obtain⟨k,hk,rfl,p⟩:=hrel;by_cases hlt:k<d.length
  .have y:(k:Int)<(d.length:Int):=by omega
   obtain⟨v,G⟩:=ex (d[k])
   have C:v<10:=by rw[<-G];exact P.out _ (List.getElem_mem hlt)
   obtain⟨ad,D,_,y0⟩:=zvq (m.out.below p.out.2) hlt G C;subst D;have pfd:∀j,wr.frozen? ⟨a+1,j,none⟩=false:=p.out.1.frozen;have e:((d.take k).map Gr.ch).length=k:=by simp;omega
   obtain⟨M,zd⟩:∃M,wr.cell? ⟨a+1,k,none⟩=some M:=by
    rw[p.out.1.cell];refine⟨_,Array.getElem?_eq_getElem (i:=k) ?_⟩;simp[ucells];omega
   have B:Hid ((d.take (k+1)).map Gr.ch=(d.take k).map Gr.ch++[Gr.ch v]/\((d.take k).map Gr.ch).length=k):=hid ⟨by
    rw[List.take_succ_eq_append_getElem hlt,List.map_append,G];rfl,e⟩
   have hvI:(v:Int)<10:=by omega
   clear G e;go_wp2_with fail;obtain⟨q,r⟩:∃q:UInt8,q=Gr.ch v:=⟨_,rfl⟩
   have z:48+(v:Int)=(q.toNat:Int):=by rw[r];unfold Gr.ch;rw[UInt8.toNat_ofNat'];omega
   rw[z];have Q:Hid (Blk (wr.setCell ⟨a+1,k,none⟩ (.int .u8 (q.toNat:Int))) (a+1) 5 (ucells ((d.take (k+1)).map Gr.ch++List.replicate (d.length-(k+1)) 0))/\Below a w (wr.setCell ⟨a+1,k,none⟩ (.int .u8 (q.toNat:Int)))):=hid ⟨by
    have K:=p.out.1.set_ k (.int .u8 (q.toNat:Int));rw[zdt]at K;have N:=zkr ((d.take k).map Gr.ch) (d.length-k) q (by omega);rw[B.out.2]at N;rw[N]at K;rw[B.out.1,<-r,show d.length-(k+1)=d.length-k-1 from by omega];exact K,p.out.2.setCell (by simp) _⟩
   clear z r;go_roundw
   case rel=>exact⟨k+1,by omega,by go_num,Q⟩
   case measure=>simp[intOf];omega
  .have y:¬(k:Int)<(d.length:Int):=by omega
   have L:RowAt byteL wr (a+2) (some ⟨a+1,0,none⟩) (d.map Gr.ch):=by
    have:=p.out.1;rw[show k=d.length from by omega,List.take_length,Nat.sub_self,List.replicate_zero,List.append_nil]at this;exact RowAt.ofBlk this (zas _) (by omega)
   have J:=zdv wr _ (some ⟨a+1,0,none⟩) d.length L;rw[List.length_map]at J;clear L;go_wp2;go_ret;exact⟨rfl,by rw[I.out];exact p.out.2⟩
namespace Flt
open Ieee
theorem b52:Ieee.double.binade=4503599627370496:=by decide
theorem sgnW:Ieee.double.signWeight=9223372036854775808:=by decide
theorem infR:Ieee.double.infRung=9218868437227405312:=by decide
theorem leastP:Ieee.double.leastPlace=-1074:=by decide
theorem fracB:Ieee.double.fractionBits=52:=rfl
theorem cut0 (neg:Bool) (n:Nat):Toward.even.cut neg n 0=n:=by
 have h:(1:Nat) <<<min 0 (n.log2+2)=1:=by rw[Nat.zero_min];rfl
 unfold Toward.cut;rw[h];simp[Nat.mod_one]
theorem zok (neg:Bool) (K d:Nat) (hK:0<K):Toward.even.cut neg (K*2 ^ d) d=K:=by
 have a:0<2 ^ d:=Nat.two_pow_pos d;have hl:d<=(K*2 ^ d).log2:=(Nat.le_log2 (by have:=Nat.mul_pos hK a;omega)).2 (Nat.le_mul_of_pos_left _ hK);have h:(1:Nat) <<<min d ((K*2 ^ d).log2+2)=2 ^ d:=by rw[Nat.min_eq_left (by omega),Nat.shiftLeft_eq,Nat.one_mul]
 unfold Toward.cut;rw[h];simp[Nat.mul_div_cancel _ a,Nat.mul_mod_left]
theorem zvk (M:Nat) (p last:Int) (hM:M≠0) (hlast:max (p+(M.log2:Int)-52) (-1074)=last) (h:last<=p):Ieee.double.nearest false M p=min ((last+1074).toNat*4503599627370496+M*2 ^ (p-last).toNat) 9218868437227405312:=by
 unfold Format.nearest;rw[if_neg hM,leastP,b52,infR,fracB];simp only[Format.word,Bool.false_eq_true,if_false];rw[show((52:Nat):Int)=52 from rfl,hlast,show(last-p).toNat=0 from by omega,cut0,Nat.shiftLeft_eq,show last- -1074=last+1074 from by omega]
theorem zh0 (M K:Nat) (p last:Int) (hM:M≠0) (hlast:max (p+(M.log2:Int)-52) (-1074)=last) (h:p<=last) (hK:M=K*2 ^ (last-p).toNat):Ieee.double.nearest false M p=min ((last+1074).toNat*4503599627370496+K) 9218868437227405312:=by
 unfold Format.nearest;rw[if_neg hM,leastP,b52,infR,fracB];simp only[Format.word,Bool.false_eq_true,if_false];rw[show((52:Nat):Int)=52 from rfl,hlast,show(p-last).toNat=0 from by omega,show last- -1074=last+1074 from by omega,Nat.shiftLeft_eq,Nat.pow_zero,Nat.mul_one,hK,zok];rcases Nat.eq_zero_or_pos K with h0|h0
 .grind
 .exact h0
theorem zjh (m L:Nat) (h1:2 ^ L<=m) (h2:m<2 ^ (L+1)):m.log2=L:=by
 have c:m≠0:=by have:=Nat.two_pow_pos L;omega
 have a:=(Nat.le_log2 c).2 h1;have b:=(Nat.log2_lt c).2 h2;omega
def lastP (L:Nat) (e:Int):Int:=max (e+L-52) (-1074)
def sig (m L:Nat) (e:Int):Nat:=m*2 ^ (e-lastP L e).toNat
def fw (m L:Nat) (e:Int):Nat:=(lastP L e+1074).toNat*4503599627370496+sig m L e
structure Fits (m L:Nat) (e:Int):Prop where
 odd:m%2=1
 lo:2 ^ L<=m
 hi:m<2 ^ (L+1)
 len:L+1<=53
 e0:-1074<=e
 e1:e+L+1<=1024
section
variable {m L:Nat} {e:Int}
theorem Fits.last_le (h:Fits m L e):lastP L e<=e:=by have:=h.len;have:=h.e0;unfold lastP;omega
theorem zex (a:Nat) (h:a<=53):2 ^ a<=9007199254740992:=Nat.pow_le_pow_right (n:=2) (by omega) h
theorem Fits.sig_bd (h:Fits m L e):0<sig m L e/\sig m L e<9007199254740992/\(4503599627370496<=sig m L e\/lastP L e=-1074)/\lastP L e<=971/\-1074<=lastP L e:=by
 have h1:=h.len;have h2:=h.e0;have h3:=h.e1;have c:=h.lo;have b:=h.hi;have h0:=h.last_le;have hd:L+(e-lastP L e).toNat<=52:=by unfold lastP;omega
 have a:0<m:=by have:=Nat.two_pow_pos L;omega
 refine⟨Nat.mul_pos a (Nat.two_pow_pos _),?_,?_,by unfold lastP;omega,by unfold lastP;omega⟩
 .have:sig m L e<2 ^ (L+1)*2 ^ (e-lastP L e).toNat:=Nat.mul_lt_mul_of_pos_right b (Nat.two_pow_pos _);rw[<-Nat.pow_add]at this;exact Nat.lt_of_lt_of_le this (zex _ (by omega))
 .by_cases hc:e+L-52< -1074
  .right;unfold lastP;omega
  .left;have d:L+(e-lastP L e).toNat=52:=by unfold lastP;omega
   have:2 ^ L*2 ^ (e-lastP L e).toNat<=sig m L e:=Nat.mul_le_mul_right _ c;rw[<-Nat.pow_add,d]at this;exact this
theorem Fits.fw_lt (h:Fits m L e):0<fw m L e/\fw m L e<9218868437227405312:=by
 obtain⟨a,b,c,d,f⟩:=h.sig_bd;unfold fw;omega
theorem Fits.read (h:Fits m L e):Ieee.double.read (fw m L e)=.number false (sig m L e) (lastP L e):=by
 obtain⟨a,b,c,d,f⟩:=h.sig_bd;obtain⟨l,j⟩:=h.fw_lt;obtain⟨k,i⟩:∃k:Nat,lastP L e=-1074+k:=⟨(lastP L e+1074).toNat,by omega⟩
 have g:fw m L e=k*4503599627370496+sig m L e:=by unfold fw;rw[i,show(-1074+(k:Int)+1074).toNat=k from by omega]
 unfold Format.read;rw[sgnW,b52,infR,leastP];have o:fw m L e /9223372036854775808=0:=Nat.div_eq_of_lt (by omega);have n:fw m L e%9223372036854775808=fw m L e:=Nat.mod_eq_of_lt (by omega);rw[o,n];simp only[Nat.zero_mod];rw[i,g];rw[g]at l j;by_cases hn:k*4503599627370496+sig m L e<4503599627370496
 .grind
 .grind
theorem Fits.ofNat (h:Fits m L e):floatOfInt .f64 (m:Int)=(L+1022)*4503599627370496+m*2 ^ (52-L):=by
 have h1:=h.len;have f:=h.lo;have a:=h.hi;have b:m≠0:=by have:=Nat.two_pow_pos L;omega
 have c:=zjh m L f a;unfold floatOfInt FloatKind.nearest FloatKind.encode FloatKind.format;simp only[Format.write];rw[show decide ((m:Int)<0)=false from by simp,Int.natAbs_natCast,zvk m 0 ((L:Int)-52) b (by rw[c];omega) (by omega)];have g:((L:Int)-52+1074).toNat=L+1022:=by omega
 have d:(0-((L:Int)-52)).toNat=52-L:=by omega
 rw[g,d];have:m*2 ^ (52-L)<9007199254740992:=by
  have:m*2 ^ (52-L)<2 ^ (L+1)*2 ^ (52-L):=Nat.mul_lt_mul_of_pos_right a (Nat.two_pow_pos _);rw[<-Nat.pow_add,show L+1+(52-L)=53 from by omega]at this;exact this
 omega
theorem Fits.full (h:Fits m L e):4503599627370496<=m*2 ^ (52-L)/\m*2 ^ (52-L)<9007199254740992:=by
 have h1:=h.len;have b:=h.lo;have a:=h.hi;constructor
 .have:2 ^ L*2 ^ (52-L)<=m*2 ^ (52-L):=Nat.mul_le_mul_right _ b;rw[<-Nat.pow_add,show L+(52-L)=52 from by omega]at this;exact this
 .have:m*2 ^ (52-L)<2 ^ (L+1)*2 ^ (52-L):=Nat.mul_lt_mul_of_pos_right a (Nat.two_pow_pos _);rw[<-Nat.pow_add,show L+1+(52-L)=53 from by omega]at this;exact this
theorem zdi (k s:Nat) (hk:1<=k) (hk2:k<=2046) (hs:4503599627370496<=s) (hs2:s<9007199254740992):Ieee.double.read (k*4503599627370496+(s-4503599627370496))=.number false s ((k:Int)-1075):=by
 unfold Format.read;rw[sgnW,b52,infR,leastP];have d:(k*4503599627370496+(s-4503599627370496)) /9223372036854775808=0:=Nat.div_eq_of_lt (by omega);have b:(k*4503599627370496+(s-4503599627370496))%9223372036854775808=k*4503599627370496+(s-4503599627370496):=Nat.mod_eq_of_lt (by omega);have a:(k*4503599627370496+(s-4503599627370496))%4503599627370496=s-4503599627370496:=by omega
 have c:(k*4503599627370496+(s-4503599627370496)) /4503599627370496=k:=by omega
 simp only[d,b,a,c,Nat.zero_mod];rw[if_neg (by omega),if_pos (by omega),show 4503599627370496+(s-4503599627370496)=s from by omega,show -1074+((k-1:Nat):Int)=(k:Int)-1075 from by omega];rfl
theorem Fits.mul_one (h:Fits m L e) (hn:-1022<=e+L):Ieee.double.mul 4607182418800017408 ((e+L+1023).toNat*4503599627370496+(m*2 ^ (52-L)-4503599627370496))=some (fw m L e):=by
 obtain⟨j,i⟩:=h.full;have h1:=h.len;have h2:=h.e0;have h3:=h.e1;obtain⟨g0,d⟩:=h.fw_lt;have c:=zdi 1023 4503599627370496 (by omega) (by omega) (by omega) (by omega);rw[show 1023*4503599627370496+(4503599627370496-4503599627370496)=4607182418800017408 from rfl]at c;have g:=zdi (e+L+1023).toNat (m*2 ^ (52-L)) (by omega) (by omega) j i;unfold Format.mul;rw[c,g];simp only[Datum.product,Option.map_some,Format.write,Bool.false_xor];generalize hS:m*2 ^ (52-L)=S at *;have f:(4503599627370496*S).log2=104:=zjh _ _ (by omega) (by omega);have a:lastP L e=e+L-52:=by unfold lastP;omega
 have b:sig m L e=S:=by unfold sig;rw[a,show(e-(e+↑L-52)).toNat=52-L from by omega,hS]
 rw[zh0 (4503599627370496*S) S _ (e+L-52) (by omega) (by rw[f];omega) (by omega) (by rw[show(e+(L:Int)-52-(((1023:Nat):Int)-1075+(((e+L+1023).toNat:Int)-1075))).toNat=52 from by omega,Nat.mul_comm])];unfold fw at d ⊢;rw[a,b]at d ⊢;refine congrArg some ?_;exact Nat.min_eq_left (by omega)
theorem Fits.mul_small (h:Fits m L e) (hn:e+L< -1022):Ieee.double.mul 4368491638549381120 ((e+L+1076).toNat*4503599627370496+(m*2 ^ (52-L)-4503599627370496))=some (fw m L e):=by
 obtain⟨k,j⟩:=h.full;have h1:=h.len;have h2:=h.e0;have h3:=h.e1;obtain⟨g0,d⟩:=h.fw_lt;have c:=zdi 970 4503599627370496 (by omega) (by omega) (by omega) (by omega);rw[show 970*4503599627370496+(4503599627370496-4503599627370496)=4368491638549381120 from rfl]at c;have i:=zdi (e+L+1076).toNat (m*2 ^ (52-L)) (by omega) (by omega) k j;unfold Format.mul;rw[c,i];simp only[Datum.product,Option.map_some,Format.write,Bool.false_xor];have a:lastP L e=-1074:=by unfold lastP;omega
 obtain⟨q,hq⟩:∃q:Nat,e=-1074+q:=⟨(e+1074).toNat,by omega⟩
 have b:sig m L e=m*2 ^ q:=by unfold sig;rw[a,show(e- -1074).toNat=q from by omega]
 have f:4503599627370496*(m*2 ^ (52-L))=m*2 ^ q*2 ^ (104-L-q):=by
  rw[show(4503599627370496:Nat)=2 ^ 52 from by decide,<-Nat.mul_assoc,Nat.mul_comm (2 ^ 52) m,Nat.mul_assoc,<-Nat.pow_add,Nat.mul_assoc,<-Nat.pow_add,show 52+(52-L)=q+(104-L-q)from by omega]
 have g:(4503599627370496*(m*2 ^ (52-L))).log2=104:=zjh _ _ (by omega) (by omega);rw[zh0 _ (m*2 ^ q) (((970:Nat):Int)-1075+(((e+L+1076).toNat:Int)-1075)) (-1074) (by omega) (by rw[g];omega) (by omega) (by rw[f,show((-1074:Int)-(((970:Nat):Int)-1075+(((e+L+1076).toNat:Int)-1075))).toNat=104-L-q from by omega])];unfold fw at d ⊢;rw[a,b]at d ⊢;refine congrArg some ?_;exact Nat.min_eq_left (by omega)
theorem Fits.order_self (h:Fits m L e):Ieee.double.order (fw m L e) (fw m L e)=some .eq:=by
 unfold Format.order;rw[h.read];simp[Datum.order]
theorem Fits.order_zero (h:Fits m L e):Ieee.double.order (fw m L e) 0=some .gt:=by
 obtain⟨a,b,c,d,f⟩:=h.sig_bd;unfold Format.order;have g:Ieee.double.read 0=.number false 0 (-1074):=by decide
 rw[h.read,g];simp only[Datum.order,signed,Bool.false_eq_true,if_false,Nat.zero_shiftLeft];rw[show min (lastP L e) (-1074)=-1074 from by omega,Nat.shiftLeft_eq];have:0<sig m L e*2 ^ (lastP L e- -1074).toNat:=Nat.mul_pos a (Nat.two_pow_pos _);generalize sig m L e*2 ^ (lastP L e- -1074).toNat=N at this;simp only[compare,compareOfLessAndEq];rw[if_neg (by omega),if_neg (by omega)]
theorem Fits.order_max (h:Fits m L e):Ieee.double.order (fw m L e) 9218868437227405311=some .lt\/Ieee.double.order (fw m L e) 9218868437227405311=some .eq:=by
 obtain⟨a,b,c,d,f⟩:=h.sig_bd;unfold Format.order;have g:Ieee.double.read 9218868437227405311=.number false 9007199254740991 971:=by decide
 rw[h.read,g];simp only[Datum.order,signed,Bool.false_eq_true,if_false];rw[show min (lastP L e) 971=lastP L e from by omega,show(lastP L e-lastP L e).toNat=0 from by omega,Nat.shiftLeft_zero,Nat.shiftLeft_eq];have:sig m L e<=9007199254740991*2 ^ (971-lastP L e).toNat:=Nat.le_trans (by omega) (Nat.le_mul_of_pos_right 9007199254740991 (Nat.two_pow_pos _));generalize 9007199254740991*2 ^ (971-lastP L e).toNat=N at this;simp only[compare,compareOfLessAndEq];by_cases h:(sig m L e:Int)<(N:Int)
 .rw[if_pos h];exact .inl rfl
 .grind
theorem Fits.fields (h:Fits m L e):∃z:Nat,z<=52/\sig m L e=m*2 ^ z/\e=lastP L e+z/\
 ((fw m L e /4503599627370496=0/\fw m L e%4503599627370496=m*2 ^ z/\e=-1074+z)\/(∃k:Nat,fw m L e /4503599627370496=k+1/\k+1<=2046/\fw m L e%4503599627370496+4503599627370496=m*2 ^ z/\e=(k:Int)-1074+z)):=by
 obtain⟨a,b,c,d,f⟩:=h.sig_bd;have h1:=h.len;have h2:=h.e0;have h3:=h.e1;have h0:=h.last_le;refine⟨(e-lastP L e).toNat,by unfold lastP;omega,rfl,by omega,?_⟩;obtain⟨k,j⟩:∃k:Nat,lastP L e=-1074+k:=⟨(lastP L e+1074).toNat,by omega⟩
 have i:fw m L e=k*4503599627370496+sig m L e:=by unfold fw;rw[j,show(-1074+(k:Int)+1074).toNat=k from by omega]
 have g:m*2 ^ (e-lastP L e).toNat=sig m L e:=rfl;rw[g,i];by_cases hn:sig m L e<4503599627370496
 .omega
 .grind
theorem zxl (m z:Nat) (hm:m%2=1) (hz:m*2 ^ z<18446744073709551616):Lib.ctz 64 (m*2 ^ z)=z:=by
 have b:0<m*2 ^ z:=Nat.mul_pos (by omega) (Nat.two_pow_pos _);obtain⟨q,a,_⟩:=Lib.ctzFrom_spec 64 (m*2 ^ z) b hz;unfold Lib.ctz;rw[if_neg (by omega)];generalize Lib.ctzFrom 64 (m*2 ^ z)=c at a;rcases Nat.lt_trichotomy c z with h|h|h
 .obtain⟨d,rfl⟩:∃d,z=c+(d+1):=⟨z-c-1,by omega⟩
  rw[Nat.pow_add,Nat.mul_left_comm]at a;have:=Nat.eq_of_mul_eq_mul_left (Nat.two_pow_pos c) a;rw[Nat.pow_succ,<-Nat.mul_assoc]at this;omega
 .exact h
 .obtain⟨d,rfl⟩:∃d,c=z+(d+1):=⟨c-z-1,by omega⟩
  rw[Nat.pow_add,Nat.mul_assoc,Nat.mul_comm m]at a;have:=Nat.eq_of_mul_eq_mul_left (Nat.two_pow_pos z) a;rw[Nat.pow_succ,Nat.mul_assoc,Nat.mul_left_comm]at this;omega
end
end Flt
theorem zbs (a b:Nat) (ha:a<18446744073709551616) (hb:b<18446744073709551616):
 bits .andNot .u64 (a:Int) (b:Int)=((a &&& (18446744073709551615-b):Nat):Int):=by
 have hx:a &&& (18446744073709551615-b)<2 ^ 64:=Nat.and_lt_two_pow _ (by omega);have c:(BitVec.ofInt 64 (a:Int)).toNat=a:=by
  grind
 have d:(BitVec.ofInt 64 (b:Int)).toNat=b:=by
  grind
 show IntKind.u64.wrap ((BitVec.ofInt 64 (a:Int) &&& ~~~ BitVec.ofInt 64 (b:Int)).toNat:Int)=_;rw[BitVec.toNat_and,BitVec.toNat_not,c,d,IntKind.wrap_u64];rw[show 2 ^ 64-1-b=18446744073709551615-b from by omega];omega
theorem zej (a n:Nat):a &&& (2 ^ n-1)=a%2 ^ n:=Nat.and_two_pow_sub_one_eq_mod a n
theorem zvl (a n:Nat) (h:a<2 ^ n):a &&& 2 ^ n=0:=by
 apply Nat.eq_of_testBit_eq;intro i;rw[Nat.testBit_and,Nat.testBit_two_pow,Nat.zero_testBit];by_cases hi:n=i
 .subst hi;rw[Nat.testBit_lt_two_pow h];rfl
 .simp[hi]
theorem zxm (f k n:Nat) (h:f<2 ^ n):f ||| (k*2 ^ n)=f+k*2 ^ n:=by
 rw[Nat.or_comm,Nat.mul_comm,<-Nat.two_pow_add_eq_or_of_lt h,Nat.add_comm]
theorem zji (a:Nat) (h:a<9223372036854775808):bits .andNot .u64 (a:Int) 9223372036854775808=(a:Int):=by
 have:=zbs a 9223372036854775808 (by omega) (by omega);rw[show(18446744073709551615-9223372036854775808:Nat)=2 ^ 63-1 from by decide,zej,Nat.mod_eq_of_lt (by omega)]at this;exact this
theorem zsb (a:Nat) (h:a<18446744073709551616):bits .and .u64 (a:Int) 4503599627370495=((a%4503599627370496:Nat):Int):=by
 have:=bits_and_u64_nat a 4503599627370495 h (by omega);rw[show(4503599627370495:Nat)=2 ^ 52-1 from by decide,zej]at this;exact this
theorem zlx (a:Nat) (h:a<9223372036854775808):bits .andNot .u64 (a:Int) 9218868437227405312=((a%4503599627370496:Nat):Int):=by
 have:=zbs a 9218868437227405312 (by omega) (by omega);rw[show(18446744073709551615-9218868437227405312:Nat)=(2 ^ 52-1) ||| 2 ^ 63 from by decide,Nat.and_or_distrib_left,zej,zvl a 63 (by omega),Nat.or_zero]at this;exact this
theorem zol (f k:Nat) (h:f<4503599627370496) (hk:k<4096):bits .or .u64 (f:Int) ((k*4503599627370496:Nat):Int)=((k*4503599627370496+f:Nat):Int):=by
 have:=bits_or_u64_nat f (k*4503599627370496) (by omega) (by omega);rw[show f |||k*4503599627370496=f+k*4503599627370496 from zxm f k 52 h,Nat.add_comm]at this;exact this
theorem or_one (f:Nat) (h:f<4503599627370496):bits .or .u64 (f:Int) 4503599627370496=((f+4503599627370496:Nat):Int):=by
 have:=zol f 1 h (by omega);rw[Nat.one_mul,Nat.add_comm]at this;exact this
theorem zvm (k:Nat) (h:k<2048):bits .and .i64 (k:Int) 2047=(k:Int):=by
 have a:(BitVec.ofInt 64 (k:Int)).toNat=k:=by
  grind
 have b:(BitVec.ofInt 64 (2047:Int)).toNat=2047:=by decide
 show IntKind.i64.wrap ((BitVec.ofInt 64 (k:Int) &&& BitVec.ofInt 64 2047).toNat:Int)=_;rw[BitVec.toNat_and,a,b,show(2047:Nat)=2 ^ 11-1 from by decide,zej,Nat.mod_eq_of_lt (by omega)];simp[IntKind.wrap,IntKind.signed,IntKind.bits];omega
def mZ:Array Value:=#[.int .i64 0,.int .i64 0,.int .i64 0,.int .i64 0,.int .i64 0,.int .i64 0,.int .i64 0,.int .i64 0,.int .i64 0,.int .i64 0,.int .u8 0]
structure RMem (s:Gr.Str) (w:World) (sb rb mb ab fb:Nat) (sh:Nat) (f:Nat->Nat) (nn z p:Nat) (wx:World):Prop where
 b:Below w.heap.size w wx
 n:w.heap.size<=rb
 nm:w.heap.size<=mb
 na:w.heap.size<=ab
 mr:mb≠rb
 s:Blk wx sb 9 #[.string ⟨s.toArray⟩]
 r:Blk wx rb 97 mZ
 m:Blk wx mb 97 (mC sh f nn z)
 a:Blk wx ab 3 #[.int .i64 (p:Int)]
 f:Blk wx fb 127 #[.func (.func 83) #[] #[.pointer (some ⟨ab,0,none⟩),.pointer (some ⟨sb,0,none⟩)]]
theorem RMem.up {s:Gr.Str} {w:World} {sb rb mb ab fb sh:Nat} {f:Nat->Nat} {nn z p:Nat} {wx wy:World} (h:RMem s w sb rb mb ab fb sh f nn z p wx) (hb:Below wx.heap.size wx wy):RMem s w sb rb mb ab fb sh f nn z p wy:=
 ⟨h.b.trans (hb.mono h.b.size),h.n,h.nm,h.na,h.mr,h.s.below hb h.s.lt,h.r.below hb h.r.lt,h.m.below hb h.m.lt,h.a.below hb h.a.lt,h.f.below hb h.f.lt⟩
theorem WL.hc2 {g:Nat} {t:TypeId} {w0:World} {cs cs':Array Value} (y:WL g t w0 cs) (e:cs=cs'):Blk y.w g t cs':=by subst e;exact y.hc
def RPost (T:Option (Array Value)) (w:World) (e:Ending) (w':World):Prop:=Below w.heap.size w w'/\∃(sh:Nat) (f:Nat->Nat) (nn z:Nat),e=.returned (.tuple #[.agg (mC sh f nn z),.bool T.isSome])/\∀x,T=some x->x=mC sh f nn z
theorem za8 {w:World} {g:Nat} {t:TypeId} {c0 c1 c2 c3 c4 c5 c6 c7 c8 c9 c10 v0 v1 v2 v3 v4 v5 v6 v7 v8 v9 v10:Value} (h:Blk w g t #[c0,c1,c2,c3,c4,c5,c6,c7,c8,c9,c10]):Blk (((((((((((w.setCell ⟨g,0,none⟩ (v0)).setCell ⟨g,1,none⟩ (v1)).setCell ⟨g,2,none⟩ (v2)).setCell ⟨g,3,none⟩ (v3)).setCell ⟨g,4,none⟩ (v4)).setCell ⟨g,5,none⟩ (v5)).setCell ⟨g,6,none⟩ (v6)).setCell ⟨g,7,none⟩ (v7)).setCell ⟨g,8,none⟩ (v8)).setCell ⟨g,9,none⟩ (v9)).setCell ⟨g,10,none⟩ (v10)) g t #[v0,v1,v2,v3,v4,v5,v6,v7,v8,v9,v10]:=by
 have a:=(((((((((((h.set_ 0 v0).set_ 1 v1).set_ 2 v2).set_ 3 v3).set_ 4 v4).set_ 5 v5).set_ 6 v6).set_ 7 v7).set_ 8 v8).set_ 9 v9).set_ 10 v10)
 simp only[List.setIfInBounds_toArray,List.set_cons_zero,List.set_cons_succ]at a;exact a
theorem kb11 {w0 w:World} {g:Nat} (h:KB g w0 w) {v0 v1 v2 v3 v4 v5 v6 v7 v8 v9 v10:Value}:KB g w0 (((((((((((w.setCell ⟨g,0,none⟩ (v0)).setCell ⟨g,1,none⟩ (v1)).setCell ⟨g,2,none⟩ (v2)).setCell ⟨g,3,none⟩ (v3)).setCell ⟨g,4,none⟩ (v4)).setCell ⟨g,5,none⟩ (v5)).setCell ⟨g,6,none⟩ (v6)).setCell ⟨g,7,none⟩ (v7)).setCell ⟨g,8,none⟩ (v8)).setCell ⟨g,9,none⟩ (v9)).setCell ⟨g,10,none⟩ (v10)):=
 (((((((((((h.set 0 _).set 1 _).set 2 _).set 3 _).set 4 _).set 5 _).set 6 _).set 7 _).set 8 _).set 9 _).set 10 _)
theorem zcm {w0 w:World} {g B:Nat} (h:Below B w0 w) (hB:B<=g) {v0 v1 v2 v3 v4 v5 v6 v7 v8 v9 v10:Value}:Below B w0 (((((((((((w.setCell ⟨g,0,none⟩ (v0)).setCell ⟨g,1,none⟩ (v1)).setCell ⟨g,2,none⟩ (v2)).setCell ⟨g,3,none⟩ (v3)).setCell ⟨g,4,none⟩ (v4)).setCell ⟨g,5,none⟩ (v5)).setCell ⟨g,6,none⟩ (v6)).setCell ⟨g,7,none⟩ (v7)).setCell ⟨g,8,none⟩ (v8)).setCell ⟨g,9,none⟩ (v9)).setCell ⟨g,10,none⟩ (v10)):=
 (((((((((((h.setCell (p:=⟨g,0,none⟩) hB _).setCell (p:=⟨g,1,none⟩) hB _).setCell (p:=⟨g,2,none⟩) hB _).setCell (p:=⟨g,3,none⟩) hB _).setCell (p:=⟨g,4,none⟩) hB _).setCell (p:=⟨g,5,none⟩) hB _).setCell (p:=⟨g,6,none⟩) hB _).setCell (p:=⟨g,7,none⟩) hB _).setCell (p:=⟨g,8,none⟩) hB _).setCell (p:=⟨g,9,none⟩) hB _).setCell (p:=⟨g,10,none⟩) hB _)
theorem zx6 (s:Gr.Str) (_hl:s.length<=1073741823) (w wx:World) (sb rb mb ab fb sh:Nat) (f:Nat->Nat) (nn z p:Nat) (T:Option (Array Value)) (HM:Hid (RMem s w sb rb mb ab fb sh f nn z p wx)) (HT:Hid (T=if p=s.length then some (mC sh f nn z)else none)) {u3 u8 u9 u10 u11 u12 u13 u14 u15 u16 u17 u18 u19 u20 u21 u22 u23 u24 u25 u26 u27 u28 u29 u30 u31 u32 u33 u34 u35 u36 u37 u38 u39 u40 u41 u42 u43 u44 u45 u46 u47 u48 u49 u50 u51 u52 u53 u54 u55 u56 u57 u58 u59 u60 u61 u62 u63 u64 u65 u66 u67 u68 u69 u70 u71 u72 u73 u74 u75 u76 u77 u78 u79 u80 u81 u82 u83 u84 u85 u86 u87 u88 u89 u90 u91 u92 u93 u94 u95 u96 u97 u98 u99 u100 u101 u102 u103 u104 u105 u106 u107 u108 u109 u110 u111 u112 u113 u114 u115 u116 u117 u118 u119 u120 u121 u122 u123 u124 u125 u126 u127 u128 u129 u130 u131 u132 u133 u134 u135 u136 u137 u138 u139 u140 u141 u142 u143 u144 u145 u146 u147 u148 u149 u150 u151 u152 u153 u154:Value}:
 Code.wp prog (tl 10 (f55.body.getD .skip)) (bodyPost prog f55 (RPost T w)) {tmps:=List.toArray (.string ⟨s.toArray⟩::.pointer (some ⟨sb,0,none⟩)::.pointer (some ⟨rb,0,none⟩)::u3::.pointer (some ⟨mb,0,none⟩)::.pointer (some ⟨ab,0,none⟩)::.pointer (some ⟨fb,0,none⟩)::.func (.func 84) #[] #[.pointer (some ⟨ab,0,none⟩),.pointer (some ⟨sb,0,none⟩),.pointer (some ⟨fb,0,none⟩)]::u8::u9::u10::u11::u12::u13::u14::u15::u16::u17::u18::u19::u20::u21::u22::u23::u24::u25::u26::u27::u28::u29::u30::u31::u32::u33::u34::u35::u36::u37::u38::u39::u40::u41::u42::u43::u44::u45::u46::u47::u48::u49::u50::u51::u52::u53::u54::u55::u56::u57::u58::u59::u60::u61::u62::u63::u64::u65::u66::u67::u68::u69::u70::u71::u72::u73::u74::u75::u76::u77::u78::u79::u80::u81::u82::u83::u84::u85::u86::u87::u88::u89::u90::u91::u92::u93::u94::u95::u96::u97::u98::u99::u100::u101::u102::u103::u104::u105::u106::u107::u108::u109::u110::u111::u112::u113::u114::u115::u116::u117::u118::u119::u120::u121::u122::u123::u124::u125::u126::u127::u128::u129::u130::u131::u132::u133::u134::u135::u136::u137::u138::u139::u140::u141::u142::u143::u144::u145::u146::u147::u148::u149::u150::u151::u152::u153::u154::[]),defers:=[]} wx:=by
 generalize hc0:tl 10 (f55.body.getD .skip)=c0;simp only[tl,f55,Option.getD_some]at hc0;subst hc0;obtain⟨q,i⟩:=ex (decide ((p:Int)=(s.length:Int)))
 have hokb:((p:Int)==(s.length:Int))=q:=by rw[<-i];rfl
 have o:Hid (T=if q=true then some (mC sh f nn z)else none):=hid (by
  rw[HT.out,<-i];by_cases h:p=s.length
  .rw[if_pos h,if_pos (by simp[h])]
  .rw[if_neg h,if_neg (by simp;omega)])
 clear i HT;go_upto_region 36 with fail;obtain⟨Z,A⟩:∃Z:Bool->Array Value,Z=fun b=>if b=true then mC sh f nn z else mZ:=⟨_,rfl⟩
 have d:Hid (Z false=mZ/\Z true=mC sh f nn z):=hid (by rw[A];exact⟨rfl,rfl⟩);clear A;have l:Hid (∃y:WL rb 97 wx (Z false),{wx with drawn:=wx.drawn+1}=y.w):=hid ⟨⟨wx.drewN 1,(KB.refl _ _).drewN 1,by rw[d.out.1];exact HM.out.r.drewN 1⟩,rfl⟩;have g:Hid (∀y:WL rb 97 wx (Z false),∃z':WL rb 97 wx (Z true),(((((((((((y.w.setCell ⟨rb,0,none⟩ (.int .i64 (sh:Int))).setCell ⟨rb,1,none⟩ (.int .i64 (f 0:Int))).setCell ⟨rb,2,none⟩ (.int .i64 (f 1:Int))).setCell ⟨rb,3,none⟩ (.int .i64 (f 2:Int))).setCell ⟨rb,4,none⟩ (.int .i64 (f 3:Int))).setCell ⟨rb,5,none⟩ (.int .i64 (f 4:Int))).setCell ⟨rb,6,none⟩ (.int .i64 (f 5:Int))).setCell ⟨rb,7,none⟩ (.int .i64 (f 6:Int))).setCell ⟨rb,8,none⟩ (.int .i64 (f 7:Int))).setCell ⟨rb,9,none⟩ (.int .i64 (nn:Int))).setCell ⟨rb,10,none⟩ (.int .u8 (z:Int)))=z'.w):=hid (fun y=>⟨⟨_,kb11 y.h,by
  have B:=WL.hc2 y d.out.1;rw[d.out.2];exact za8 B⟩,rfl⟩)
 have t:Hid (∀b,Nonempty (WL rb 97 wx (Z b))):=hid (fun b=>by
  obtain⟨y,_⟩:=l.out;cases b with
  |false=>exact⟨y⟩
  |true=>obtain⟨z',_⟩:=g.out y;exact⟨z'⟩)
 have c:Hid (∀b,∀y:WL rb 97 wx (Z b),Blk y.w mb 97 (mC sh f nn z)/\Blk y.w ab 3 #[.int .i64 (p:Int)]/\Blk y.w sb 9 #[.string ⟨s.toArray⟩]):=hid (fun b y=>⟨y.h.blk HM.out.m HM.out.mr,y.h.blk HM.out.a (HM.out.a.ne_ HM.out.r (by decide)),y.h.blk HM.out.s (HM.out.s.ne_ HM.out.r (by decide))⟩);refine za7 (aF:=?aF) 5 (by kernel_rfl) _ rfl rfl rfl rfl rfl (by kernel_rfl) (by kernel_rfl) (by kernel_rfl) (by kernel_rfl) (by kernel_rfl) (fun b W=>∃y:WL rb 97 wx (Z b),W=y.w) l.out (fun b=>?h1) ?h2 ?h3
 case h1=>
  have q0:∀y:WL rb 97 wx (Z b),y.w.cell? ⟨mb,0,none⟩=some (.int .i64 (sh:Int)):=fun y=>(c.out b y).1.cell 0
  have q1:∀y:WL rb 97 wx (Z b),y.w.cell? ⟨mb,1,none⟩=some (.int .i64 (f 0:Int)):=fun y=>(c.out b y).1.cell 1
  have q2:∀y:WL rb 97 wx (Z b),y.w.cell? ⟨mb,2,none⟩=some (.int .i64 (f 1:Int)):=fun y=>(c.out b y).1.cell 2
  have q3:∀y:WL rb 97 wx (Z b),y.w.cell? ⟨mb,3,none⟩=some (.int .i64 (f 2:Int)):=fun y=>(c.out b y).1.cell 3
  have q4:∀y:WL rb 97 wx (Z b),y.w.cell? ⟨mb,4,none⟩=some (.int .i64 (f 3:Int)):=fun y=>(c.out b y).1.cell 4
  have q5:∀y:WL rb 97 wx (Z b),y.w.cell? ⟨mb,5,none⟩=some (.int .i64 (f 4:Int)):=fun y=>(c.out b y).1.cell 5
  have q6:∀y:WL rb 97 wx (Z b),y.w.cell? ⟨mb,6,none⟩=some (.int .i64 (f 5:Int)):=fun y=>(c.out b y).1.cell 6
  have q7:∀y:WL rb 97 wx (Z b),y.w.cell? ⟨mb,7,none⟩=some (.int .i64 (f 6:Int)):=fun y=>(c.out b y).1.cell 7
  have q8:∀y:WL rb 97 wx (Z b),y.w.cell? ⟨mb,8,none⟩=some (.int .i64 (f 7:Int)):=fun y=>(c.out b y).1.cell 8
  have q9:∀y:WL rb 97 wx (Z b),y.w.cell? ⟨mb,9,none⟩=some (.int .i64 (nn:Int)):=fun y=>(c.out b y).1.cell 9
  have q10:∀y:WL rb 97 wx (Z b),y.w.cell? ⟨mb,10,none⟩=some (.int .u8 (z:Int)):=fun y=>(c.out b y).1.cell 10
  have hne:=t.out b;have qA:∀y:WL rb 97 wx (Z b),y.w.cell? ⟨ab,0,none⟩=some (.int .i64 (p:Int)):=fun y=>(c.out b y).2.1.cell 0
  have qS:∀y:WL rb 97 wx (Z b),y.w.cell? ⟨sb,0,none⟩=some (.string ⟨s.toArray⟩):=fun y=>(c.out b y).2.2.cell 0
  simp only[List.set_cons_succ,List.set_cons_zero,nopOf,List.getElem_toArray,List.getElem_cons_succ,List.getElem_cons_zero]
  iterate 7 (go_big_quiet_step (fail))
  refine wpQuiet_nil ?_;rfl
 case h2=>
  rintro _ ⟨y,rfl⟩;obtain⟨z',C⟩:=g.out y;have e:Blk y.w rb 97 #[.int .i64 0,.int .i64 0,.int .i64 0,.int .i64 0,.int .i64 0,.int .i64 0,.int .i64 0,.int .i64 0,.int .i64 0,.int .i64 0,.int .u8 0]:=WL.hc2 y d.out.1;have f0:∀j,y.w.frozen? ⟨rb,j,none⟩=false:=e.frozen;obtain⟨c0,c1,c2,c3,c4,c5,c6,c7,c8,c9,c10⟩:=zaf e;refine⟨z'.w,?_,z',rfl⟩;rw[<-C];simp only[List.getElem_toArray,List.getElem_cons_succ,List.getElem_cons_zero];go_simp
 case h3=>
 rintro _ ⟨y,rfl⟩;have e:Blk y.w rb 97 (mC sh f nn z):=WL.hc2 y d.out.2;obtain⟨e0,e1,e2,e3,e4,e5,e6,e7,e8,e9,e10⟩:=zaf e;go_wp2_with fail;have u:Below w.heap.size w y.w:=HM.out.b.trans (y.h.below HM.out.n HM.out.b.size);refine bodyPost_ret (v:=.tuple #[.agg #[.int .i64 (sh:Int),.int .i64 (f 0:Int),.int .i64 (f 1:Int),.int .i64 (f 2:Int),.int .i64 (f 3:Int),.int .i64 (f 4:Int),.int .i64 (f 5:Int),.int .i64 (f 6:Int),.int .i64 (f 7:Int),.int .i64 (nn:Int),.int .u8 (z:Int)],.bool q]) (by rw[results_cell_tmp rfl];go_simp) rfl ?_;unfold RPost;refine⟨u,sh,f,nn,z,?_,fun x k=>?_⟩
 .rw[o.out];cases q<;>rfl
 .rw[o.out]at k;split at k
  .injection k with k;exact k.symm
  .cases k
theorem fld0 (s:Gr.Str) (a first c:Nat):fldAt s a first c 0=numAt s a first:=rfl
theorem fld1 (s:Gr.Str) (a first c:Nat):fldAt s a first c 1=if isAt s (a+first) (UInt8.ofNat c)=true then numAt s (a+first+1) 2 else none:=by
 unfold fldAt posAt;simp
theorem fld2 (s:Gr.Str) (a first c:Nat):fldAt s a first c 2=if isAt s (a+first+3) (UInt8.ofNat c)=true then numAt s (a+first+4) 2 else none:=by
 unfold fldAt posAt;simp[Nat.add_assoc]
theorem ze7 {c:Prop} [Decidable c] {o:Option Nat} {v:Nat} (h:(if c then o else none)=some v):c/\o=some v:=by
 grind
theorem ze8 {c:Prop} [Decidable c] {o:Option Nat} (h:(if c then o else none)=none):¬c\/o=none:=by
 grind
theorem zs5 {s:Gr.Str} {g:Nat->Nat} (h:∀j,j<3->fldAt s 0 4 45 j=some (g (0+j))):dateAt s=some (g 0,g 1,g 2):=by
 have c:=h 0 (by omega);have a:=h 1 (by omega);have b:=h 2 (by omega);rw[fld0]at c;rw[fld1]at a;rw[fld2]at b;obtain⟨d,f⟩:=ze7 a;obtain⟨e,i⟩:=ze7 b;unfold dateAt;rw[c,show(5:Nat)=0+4+1 from rfl,show(8:Nat)=0+4+4 from rfl,f,i];show(if(isAt s (0+4) (UInt8.ofNat 45) && isAt s (0+4+3) (UInt8.ofNat 45))=true then _ else _)=_;rw[d,e];rfl
theorem zmg {s:Gr.Str} (h:∃j,j<3/\fldAt s 0 4 45 j=none):dateAt s=none:=by
 obtain⟨j,hj,h⟩:=h;unfold dateAt;have:j=0\/j=1\/j=2:=by omega
 rcases this with rfl|rfl|rfl
 .rw[fld0]at h;rw[h]
 .rw[fld1]at h;rcases ze8 h with h|h
  .grind
  .grind
 .rw[fld2]at h;rcases ze8 h with h|h
  .grind
  .grind
structure ClkIs (s:Gr.Str) (a h m c:Nat):Prop where
 h:numAt s a 2=some h
 m:numAt s (a+3) 2=some m
 c:numAt s (a+6) 2=some c
 i:isAt s (a+2) 58=true
 j:isAt s (a+5) 58=true
theorem zv5 {s:Gr.Str} {a:Nat} {g:Nat->Nat} (h:∀j,j<3->fldAt s a 2 58 j=some (g (3+j))):ClkIs s a (g 3) (g 4) (g 5):=by
 have d:=h 0 (by omega);have b:=h 1 (by omega);have c:=h 2 (by omega);rw[fld0]at d;rw[fld1]at b;rw[fld2]at c;obtain⟨e,i⟩:=ze7 b;obtain⟨f,k⟩:=ze7 c;exact⟨d,i,k,e,f⟩
theorem zx7 {s:Gr.Str} {a:Nat} (h:∃j,j<3/\fldAt s a 2 58 j=none):clockAt s a=none:=by
 obtain⟨j,hj,h⟩:=h;unfold clockAt;have:j=0\/j=1\/j=2:=by omega
 rcases this with rfl|rfl|rfl
 .rw[fld0]at h;rw[h]
 .rw[fld1]at h;rcases ze8 h with h|h
  .grind
  .grind
 .rw[fld2]at h;rcases ze8 h with h|h
  .grind
  .grind
theorem zpp {s:Gr.Str} {a h m c:Nat} (k:ClkIs s a h m c) (hd:isAt s (a+8) 46=false):clockAt s a=some ⟨h,m,c,0,a+8⟩:=by
 unfold clockAt;rw[k.h,k.m,k.c];simp only;rw[k.i,k.j,hd];rfl
theorem zv6 {s:Gr.Str} {a h m c:Nat} (k:ClkIs s a h m c) (hd:isAt s (a+8) 46=true):clockAt s a=if((s.drop (a+9)).takeWhile Gr.dig).length=0\/9<((s.drop (a+9)).takeWhile Gr.dig).length then none
 else some ⟨h,m,c,Gr.val ((s.drop (a+9)).takeWhile Gr.dig)*10 ^ (9-((s.drop (a+9)).takeWhile Gr.dig).length),a+9+((s.drop (a+9)).takeWhile Gr.dig).length⟩:=by
 unfold clockAt;rw[k.h,k.m,k.c];simp only;rw[k.i,k.j,hd];rfl
theorem zbu {s:Gr.Str} {p b:Nat} (hp:p<s.length) (hb:(s[p]'hp).toNat=b) (c:UInt8):isAt s p c=decide (b=c.toNat):=by
 unfold isAt;rw[List.getElem?_eq_getElem hp,<-hb,Bool.eq_iff_iff];simp;exact⟨fun e=>by rw[e],fun e=>UInt8.toNat_inj.1 e⟩
theorem zx8 {s:Gr.Str} {p:Nat} (hp:p<s.length) (hb:(s[p]'hp).toNat=90):zoneAt s p=some ⟨90,0,0,p+1⟩:=by
 unfold zoneAt;rw[if_pos (by rw[zbu hp hb];rfl)]
theorem zk2 {s:Gr.Str} {p b:Nat} (hp:p<s.length) (hb:(s[p]'hp).toNat=b) (h1:b≠90) (h2:b≠43) (h3:b≠45):zoneAt s p=none:=by
 unfold zoneAt;rw[if_neg (by rw[zbu hp hb];simpa using h1)];split
 .rw[if_neg];rw[zbu hp hb,zbu hp hb];simp[h2,h3]
 .rfl
theorem zs6 {s:Gr.Str} {p b:Nat} {g:Nat->Nat} (hp:p<s.length) (hb:(s[p]'hp).toNat=b) (h2:b=43\/b=45) (h:∀j,j<2->fldAt s (p+1) 2 58 j=some (g (6+j))):∃z:Gr.Zn,zoneAt s p=some z/\z.z.toNat=b/\z.h=g 6/\z.m=g 7/\z.stop=p+6:=by
 have a:=h 0 (by omega);have c:=h 1 (by omega);rw[fld0]at a;rw[fld1]at c;obtain⟨e,d⟩:=ze7 c;refine⟨⟨s.getD p 0,g 6,g 7,p+6⟩,?_,?_,rfl,rfl,rfl⟩
 .unfold zoneAt;rw[if_neg (by rw[zbu hp hb];rcases h2 with rfl|rfl<;>decide),a,show p+4=p+1+2+1 from rfl,d];simp only;rw[if_pos];rw[zbu hp hb,zbu hp hb,Bool.and_eq_true];exact⟨by rcases h2 with rfl|rfl<;>decide,e⟩
 .grind
theorem zmh {s:Gr.Str} {p b:Nat} (hp:p<s.length) (hb:(s[p]'hp).toNat=b) (h2:b≠90) (h:∃j,j<2/\fldAt s (p+1) 2 58 j=none):zoneAt s p=none:=by
 obtain⟨j,hj,h⟩:=h;unfold zoneAt;rw[if_neg (by rw[zbu hp hb];simpa using h2)];have:j=0\/j=1:=by omega
 rcases this with rfl|rfl
 .rw[fld0]at h;rw[h]
 .rw[fld1]at h;rcases ze8 h with h|h
  .grind
  .grind
theorem zih (sh y m d h mi c zh zm nanos z:Int) (hv:Cal.vld y m d=true) (h0:0<=h) (h1:h<=1000) (h2:0<=mi) (h3:mi<=1000) (h4:0<=c) (h5:c<=1000) (h6:0<=zh) (h7:zh<=1000) (h8:0<=zm) (h9:zm<=1000) (w:World):
 Calls prog 58 #[.agg #[.int .i64 sh,.int .i64 y,.int .i64 m,.int .i64 d,.int .i64 h,.int .i64 mi,.int .i64 c,.int .i64 zh,.int .i64 zm,.int .i64 nanos,.int .u8 z]] w fun e w'=>e=.returned (.int .i64 (if z=43 then Cal.num y m d*86400+h*3600+mi*60+c-(zh*3600+zm*60)else Cal.num y m d*86400+h*3600+mi*60+c+(zh*3600+zm*60)))/\Below w.heap.size w w':=by
 have t:=hid (fun W=>zk7 y m d hv W);have v:=Cal.zy9 hv;obtain⟨q,x⟩:=ex (Cal.num y m d)
 rw[x]at t v ⊢;obtain⟨hb0,hb1⟩:=v;clear x hv;obtain⟨r,o⟩:=ex (if z=43 then q*86400+h*3600+mi*60+c-(zh*3600+zm*60)else q*86400+h*3600+mi*60+c+(zh*3600+zm*60))
 have u:=hid o;rw[o];clear o;go_enter func58,ntmps58;go_upto_region 1 with fail;obtain⟨f,g⟩:=ex w.heap.size
 obtain⟨l,k⟩:∃l,l=w.alloc (.cells #[.int .i64 sh,.int .i64 y,.int .i64 m,.int .i64 d,.int .i64 h,.int .i64 mi,.int .i64 c,.int .i64 zh,.int .i64 zm,.int .i64 nanos,.int .u8 z] 97):=⟨_,rfl⟩
 have b:Hid (Blk l f 97 #[.int .i64 sh,.int .i64 y,.int .i64 m,.int .i64 d,.int .i64 h,.int .i64 mi,.int .i64 c,.int .i64 zh,.int .i64 zm,.int .i64 nanos,.int .u8 z]/\Below f w l):=hid (by rw[k,<-g];exact⟨Blk.new _ _ _,(Below.refl _ _).alloc (Nat.le_refl _) _⟩);have n:=hid g;(try rw[<-k]);(try rw[g]);clear k g;have B:l.cell? ⟨f,1,none⟩=some (.int .i64 y):=b.out.1.cell 1;have A:l.cell? ⟨f,2,none⟩=some (.int .i64 m):=b.out.1.cell 2;have C:l.cell? ⟨f,3,none⟩=some (.int .i64 d):=b.out.1.cell 3;go_wp2_with fail;refine(t.out _).mono ?_;rintro e i ⟨rfl,j⟩;have a:Hid (Blk i f 97 #[.int .i64 sh,.int .i64 y,.int .i64 m,.int .i64 d,.int .i64 h,.int .i64 mi,.int .i64 c,.int .i64 zh,.int .i64 zm,.int .i64 nanos,.int .u8 z]/\Below f w i):=hid ⟨b.out.1.below j b.out.1.lt,b.out.2.trans (j.mono (Nat.le_of_lt b.out.1.lt))⟩;clear j B A C;have q4:i.cell? ⟨f,4,none⟩=some (.int .i64 h):=a.out.1.cell 4;have q5:i.cell? ⟨f,5,none⟩=some (.int .i64 mi):=a.out.1.cell 5;have q6:i.cell? ⟨f,6,none⟩=some (.int .i64 c):=a.out.1.cell 6;have q7:i.cell? ⟨f,7,none⟩=some (.int .i64 zh):=a.out.1.cell 7;have q8:i.cell? ⟨f,8,none⟩=some (.int .i64 zm):=a.out.1.cell 8;have q10:i.cell? ⟨f,10,none⟩=some (.int .u8 z):=a.out.1.cell 10;by_cases hz:z=43
 .have p:(z==43)=true:=by simpa using hz
  have s:Hid (r=q*86400+h*3600+mi*60+c-(zh*3600+zm*60)):=hid (by rw[<-u.out,if_pos hz]);clear hz;go_wp2;go_ret;rw[s.out,n.out];exact⟨rfl,a.out.2⟩
 .have p:(z==43)=false:=by simpa using hz
  have s:Hid (r=q*86400+h*3600+mi*60+c+(zh*3600+zm*60)):=hid (by rw[<-u.out,if_neg hz]);go_wp2;go_ret;rw[s.out,n.out];exact⟨rfl,a.out.2⟩
def prngB (sh:Int) (y m d h mi c zh zm:Nat):Bool:=(decide (sh=2) || Cal.vld y m d) && decide (h<=23) && decide (mi<=59) && decide (c<=59) && decide (zh<=23) && decide (zm<=59)
theorem zfa (sh:Int) (y m d h mi c zh zm:Nat) (nanos z:Int) (w:World):
 Calls prog 56 #[.agg #[.int .i64 sh,.int .i64 (y:Int),.int .i64 (m:Int),.int .i64 (d:Int),.int .i64 (h:Int),.int .i64 (mi:Int),.int .i64 (c:Int),.int .i64 (zh:Int),.int .i64 (zm:Int),.int .i64 nanos,.int .u8 z]] w fun e w'=>e=.returned (.bool (prngB sh y m d h mi c zh zm))/\Below w.heap.size w w':=by
 have X:=hid (fun q W=>zk7 (y:Int) (m:Int) (d:Int) q W);have V:=hid (fun q W=>zwc (y:Int) (m:Int) (d:Int) q W);obtain⟨r,O⟩:=ex (prngB sh y m d h mi c zh zm)
 have B:=hid O;rw[O];clear O;go_enter func56,ntmps56;go_upto_region 1 with fail;obtain⟨i,s⟩:=ex w.heap.size
 obtain⟨J,D⟩:∃J,J=w.alloc (.cells #[.int .i64 sh,.int .i64 (y:Int),.int .i64 (m:Int),.int .i64 (d:Int),.int .i64 (h:Int),.int .i64 (mi:Int),.int .i64 (c:Int),.int .i64 (zh:Int),.int .i64 (zm:Int),.int .i64 nanos,.int .u8 z] 97):=⟨_,rfl⟩
 have b:Hid (Blk J i 97 #[.int .i64 sh,.int .i64 (y:Int),.int .i64 (m:Int),.int .i64 (d:Int),.int .i64 (h:Int),.int .i64 (mi:Int),.int .i64 (c:Int),.int .i64 (zh:Int),.int .i64 (zm:Int),.int .i64 nanos,.int .u8 z]/\Below i w J):=hid (by rw[D,<-s];exact⟨Blk.new _ _ _,(Below.refl _ _).alloc (Nat.le_refl _) _⟩);have l:=hid s;(try rw[<-D]);(try rw[s]);clear D s;obtain⟨M,o⟩:=ex (decide (sh=2))
 have L:=hid o;go_cut [10] (fun s10 N=>s10=.bool (!M)/\N=J)
 case first=>
  have q0:J.cell? ⟨i,0,none⟩=some (.int .i64 sh):=b.out.1.cell 0;have hbe:(sh != 2)=!M:=by rw[<-o,bne];congr 1
  have hbe2:(sh==2)=M:=by rw[<-o];rfl
  clear o;go_wp2;go_meet
  first|exact⟨rfl,rfl⟩|exact⟨by simp,rfl⟩
 case rest=>
 obtain⟨rfl,rfl⟩:=hcut;refine(‹∀(a:Act) (w_1:World),Code.wp prog _ _ a w_1->_›) _ _ ?_;go_cut [] (fun N=>Hid ((sh=2\/Cal.vld y m d=true)/\Blk N i 97 #[.int .i64 sh,.int .i64 (y:Int),.int .i64 (m:Int),.int .i64 (d:Int),.int .i64 (h:Int),.int .i64 (mi:Int),.int .i64 (c:Int),.int .i64 (zh:Int),.int .i64 (zm:Int),.int .i64 nanos,.int .u8 z]/\Below i w N))
 case first=>
  have S:wc.cell? ⟨i,1,none⟩=some (.int .i64 (y:Int)):=b.out.1.cell 1;have T:wc.cell? ⟨i,2,none⟩=some (.int .i64 (m:Int)):=b.out.1.cell 2;have U:wc.cell? ⟨i,3,none⟩=some (.int .i64 (d:Int)):=b.out.1.cell 3;clear o;cases M with
  |true=>
   have P:Hid (sh=2):=hid (of_decide_eq_true L.out);go_wp2;go_meet;exact hid ⟨.inl P.out,b.out.1,b.out.2⟩
  |false=>
   have P:Hid (¬sh=2):=hid (of_decide_eq_false L.out);cases q:Cal.vld y m d with
   |true=>
    have x:=hid q;have R:=hid (X.out q);clear q;go_wp2_with fail;refine(R.out _).mono ?_;rintro e K ⟨rfl,j⟩;have v:Hid (Blk K i 97 #[.int .i64 sh,.int .i64 (y:Int),.int .i64 (m:Int),.int .i64 (d:Int),.int .i64 (h:Int),.int .i64 (mi:Int),.int .i64 (c:Int),.int .i64 (zh:Int),.int .i64 (zm:Int),.int .i64 nanos,.int .u8 z]/\Below i w K):=hid ⟨b.out.1.below j b.out.1.lt,b.out.2.trans (j.mono (Nat.le_of_lt b.out.1.lt))⟩;clear j S T U;go_wp2;go_meet;exact hid ⟨.inr x.out,v.out.1,v.out.2⟩
   |false=>
    have n:Hid (r=false):=hid (by rw[<-B.out];unfold prngB;rw[q,decide_eq_false P.out];rfl);have R:=hid (V.out q);clear q;go_wp2_with fail;refine(R.out _).mono ?_;rintro e K ⟨rfl,j⟩;have v:Hid (Blk K i 97 #[.int .i64 sh,.int .i64 (y:Int),.int .i64 (m:Int),.int .i64 (d:Int),.int .i64 (h:Int),.int .i64 (mi:Int),.int .i64 (c:Int),.int .i64 (zh:Int),.int .i64 (zm:Int),.int .i64 nanos,.int .u8 z]/\Below i w K):=hid ⟨b.out.1.below j b.out.1.lt,b.out.2.trans (j.mono (Nat.le_of_lt b.out.1.lt))⟩;clear j S T U;go_wp2;go_ret;rw[n.out,l.out];exact⟨rfl,v.out.2⟩
 case rest=>
 have t:=hcut;clear hcut b o;refine(‹∀(a:Act) (w_1:World),Code.wp prog _ _ a w_1->_›) _ _ ?_;have i0:∀w,(Instr.index 130 (.agg #[.int .i64 23,.int .i64 59,.int .i64 59,.int .i64 23,.int .i64 59]) (.int .i64 0)).run prog w=.ok (.int .i64 23) w:=fun _=>by kernel_rfl
 have i1:∀w,(Instr.index 130 (.agg #[.int .i64 23,.int .i64 59,.int .i64 59,.int .i64 23,.int .i64 59]) (.int .i64 1)).run prog w=.ok (.int .i64 59) w:=fun _=>by kernel_rfl
 have i2:∀w,(Instr.index 130 (.agg #[.int .i64 23,.int .i64 59,.int .i64 59,.int .i64 23,.int .i64 59]) (.int .i64 2)).run prog w=.ok (.int .i64 59) w:=fun _=>by kernel_rfl
 have i3:∀w,(Instr.index 130 (.agg #[.int .i64 23,.int .i64 59,.int .i64 59,.int .i64 23,.int .i64 59]) (.int .i64 3)).run prog w=.ok (.int .i64 23) w:=fun _=>by kernel_rfl
 have i4:∀w,(Instr.index 130 (.agg #[.int .i64 23,.int .i64 59,.int .i64 59,.int .i64 23,.int .i64 59]) (.int .i64 4)).run prog w=.ok (.int .i64 59) w:=fun _=>by kernel_rfl
 go_upto_block 0 with fail;obtain⟨C,A⟩:=ex (wc.alloc (.cells #[.int .i64 23,.int .i64 59,.int .i64 59,.int .i64 23,.int .i64 59] 130))
 have f:Hid (Blk C i 97 #[.int .i64 sh,.int .i64 (y:Int),.int .i64 (m:Int),.int .i64 (d:Int),.int .i64 (h:Int),.int .i64 (mi:Int),.int .i64 (c:Int),.int .i64 (zh:Int),.int .i64 (zm:Int),.int .i64 nanos,.int .u8 z]/\Below i w C):=hid (by rw[<-A];exact⟨t.out.2.1.alloc _,t.out.2.2.alloc (Nat.le_of_lt t.out.2.1.lt) _⟩);(try rw[A]);clear A;have q4:C.cell? ⟨i,4,none⟩=some (.int .i64 (h:Int)):=f.out.1.cell 4;have q5:C.cell? ⟨i,5,none⟩=some (.int .i64 (mi:Int)):=f.out.1.cell 5;have q6:C.cell? ⟨i,6,none⟩=some (.int .i64 (c:Int)):=f.out.1.cell 6;have q7:C.cell? ⟨i,7,none⟩=some (.int .i64 (zh:Int)):=f.out.1.cell 7;have q8:C.cell? ⟨i,8,none⟩=some (.int .i64 (zm:Int)):=f.out.1.cell 8;go_wp2_with fail;go_loop [28] (fun s28=>∃k:Int,0<=k/\k<=5/\s28=.int .i64 k/\Hid ((0<k->h<=23)/\(1<k->mi<=59)/\(2<k->c<=59)/\(3<k->zh<=23)/\(4<k->zm<=59))) (fun s28=>5-(intOf s28).toNat)
 case atStart=>exact⟨0,by omega,by omega,rfl,hid ⟨by omega,by omega,by omega,by omega,by omega⟩⟩
 case round=>
  obtain⟨k,hk0,hk5,rfl,x⟩:=hrel;have Q:k=0\/k=1\/k=2\/k=3\/k=4\/k=5:=by omega
  rcases Q with rfl|rfl|rfl|rfl|rfl|rfl
  .by_cases hx:h<=23
   .have g:¬(23:Int)<(h:Int):=by omega
    have u:=hid hx;clear hx;go_wp2;go_round
    case rel=>exact⟨1,by omega,by omega,rfl,hid (by obtain⟨G,F,I,E,H⟩:=x.out;have:=u.out;exact⟨by omega,by omega,by omega,by omega,by omega⟩)⟩
    case measure=>simp[intOf]
   .have g:(23:Int)<(h:Int):=by omega
    have n:Hid (r=false):=hid (by rw[<-B.out];unfold prngB;rw[decide_eq_false (p:=h<=23) hx];simp);clear hx;go_wp2;go_ret;rw[n.out,l.out];exact⟨rfl,f.out.2⟩
  .by_cases hx:mi<=59
   .have g:¬(59:Int)<(mi:Int):=by omega
    have u:=hid hx;clear hx;go_wp2;go_round
    case rel=>exact⟨2,by omega,by omega,rfl,hid (by obtain⟨G,F,I,E,H⟩:=x.out;have:=u.out;exact⟨by omega,by omega,by omega,by omega,by omega⟩)⟩
    case measure=>simp[intOf]
   .have g:(59:Int)<(mi:Int):=by omega
    have n:Hid (r=false):=hid (by rw[<-B.out];unfold prngB;rw[decide_eq_false (p:=mi<=59) hx];simp);clear hx;go_wp2;go_ret;rw[n.out,l.out];exact⟨rfl,f.out.2⟩
  .by_cases hx:c<=59
   .have g:¬(59:Int)<(c:Int):=by omega
    have u:=hid hx;clear hx;go_wp2;go_round
    case rel=>exact⟨3,by omega,by omega,rfl,hid (by obtain⟨G,F,I,E,H⟩:=x.out;have:=u.out;exact⟨by omega,by omega,by omega,by omega,by omega⟩)⟩
    case measure=>simp[intOf]
   .have g:(59:Int)<(c:Int):=by omega
    have n:Hid (r=false):=hid (by rw[<-B.out];unfold prngB;rw[decide_eq_false (p:=c<=59) hx];simp);clear hx;go_wp2;go_ret;rw[n.out,l.out];exact⟨rfl,f.out.2⟩
  .by_cases hx:zh<=23
   .have g:¬(23:Int)<(zh:Int):=by omega
    have u:=hid hx;clear hx;go_wp2;go_round
    case rel=>exact⟨4,by omega,by omega,rfl,hid (by obtain⟨G,F,I,E,H⟩:=x.out;have:=u.out;exact⟨by omega,by omega,by omega,by omega,by omega⟩)⟩
    case measure=>simp[intOf]
   .have g:(23:Int)<(zh:Int):=by omega
    have n:Hid (r=false):=hid (by rw[<-B.out];unfold prngB;rw[decide_eq_false (p:=zh<=23) hx];simp);clear hx;go_wp2;go_ret;rw[n.out,l.out];exact⟨rfl,f.out.2⟩
  .by_cases hx:zm<=59
   .have g:¬(59:Int)<(zm:Int):=by omega
    have u:=hid hx;clear hx;go_wp2;go_round
    case rel=>exact⟨5,by omega,by omega,rfl,hid (by obtain⟨G,F,I,E,H⟩:=x.out;have:=u.out;exact⟨by omega,by omega,by omega,by omega,by omega⟩)⟩
    case measure=>simp[intOf]
   .have g:(59:Int)<(zm:Int):=by omega
    have n:Hid (r=false):=hid (by rw[<-B.out];unfold prngB;rw[decide_eq_false (p:=zm<=59) hx];simp);clear hx;go_wp2;go_ret;rw[n.out,l.out];exact⟨rfl,f.out.2⟩
  .have n:Hid (r=true):=hid (by
    obtain⟨G,F,I,E,H⟩:=x.out;rw[<-B.out];unfold prngB;rw[decide_eq_true (G (by omega)),decide_eq_true (F (by omega)),decide_eq_true (I (by omega)),decide_eq_true (E (by omega)),decide_eq_true (H (by omega))];rcases t.out.1 with h|h<;>simp[h])
   go_wp2;go_ret;rw[n.out,l.out];exact⟨rfl,f.out.2⟩
def rngB (date:Bool) (y m d h mi c:Int) (late:Bool):Bool:=(!date || (decide (1<=m) && decide (m<=12) && decide (1<=d) && decide (d<=Cal.dim y m))) && !late && decide (h<=23) && decide (mi<=59) && decide (c<=59)
theorem zec (date time zone:Bool) (y m d h mi c nanos off:Int) (late:Bool) (w:World):
 Calls prog 155 #[.agg #[.bool date,.bool time,.bool zone,.int .i64 y,.int .i64 m,.int .i64 d,.int .i64 h,.int .i64 mi,.int .i64 c,.int .i64 nanos,.int .i64 off,.bool late]] w fun e w'=>e=.returned (.bool (rngB date y m d h mi c late))/\Below w.heap.size w w':=by
 have I:date=false\/(date=true/\m<1)\/(date=true/\¬m<1/\12<m)\/(date=true/\¬m<1/\¬12<m/\d<1)\/(date=true/\¬m<1/\¬12<m/\¬d<1/\Cal.dim y m<d)\/(date=true/\¬m<1/\¬12<m/\¬d<1/\¬Cal.dim y m<d):=by
  cases date<;>simp<;>omega
 obtain⟨q,A⟩:=ex (Cal.dim y m)
 have C:=hid A;rw[A]at I;clear A;have v:Hid (1<=m->m<=12->∀W,Calls prog 185 #[.int .i64 y,.int .i64 m] W fun e w'=>e=.returned (.int .i64 q)/\W=w'):=hid (fun t u W=>by rw[<-C.out];exact zdz y m t u W);obtain⟨r,x⟩:=ex (rngB date y m d h mi c late)
 have J:=hid x;rw[x];clear x;rcases I with rfl|⟨rfl,t⟩|⟨rfl,t,u⟩|⟨rfl,t,u,h3⟩|⟨rfl,t,u,h3,h4⟩|⟨rfl,t,u,h3,h4⟩
 .have o:Hid (∀W,1<=m->m<=12->Calls prog 185 #[.int .i64 y,.int .i64 m] W fun e w'=>e=.returned (.int .i64 q)/\W=w'):=hid (fun W a b=>v.out a b W);go_enter func155,ntmps155;go_upto_region 1 with fail;obtain⟨g,k⟩:=ex w.heap.size
  obtain⟨i,l⟩:∃i,i=w.alloc (.cells #[.bool false,.bool time,.bool zone,.int .i64 y,.int .i64 m,.int .i64 d,.int .i64 h,.int .i64 mi,.int .i64 c,.int .i64 nanos,.int .i64 off,.bool late] 165):=⟨_,rfl⟩
  have f:Hid (Blk i g 165 (T12 false time zone y m d h mi c nanos off late)/\Below g w i):=hid (by rw[l,<-k];exact⟨Blk.new _ _ _,(Below.refl _ _).alloc (Nat.le_refl _) _⟩);have s:=hid k;(try rw[<-l]);(try rw[k]);clear l k;have E:∀W:WB i.heap.size i,W.w.cell? ⟨g,0,none⟩=some (.bool false):=fun W=>(W.h.cell (p:=⟨g,0,none⟩) f.out.1.lt).trans (f.out.1.cell 0)
  have z:∀W:WB i.heap.size i,W.w.cell? ⟨g,3,none⟩=some (.int .i64 y):=fun W=>(W.h.cell (p:=⟨g,3,none⟩) f.out.1.lt).trans (f.out.1.cell 3)
  have G:∀W:WB i.heap.size i,W.w.cell? ⟨g,4,none⟩=some (.int .i64 m):=fun W=>(W.h.cell (p:=⟨g,4,none⟩) f.out.1.lt).trans (f.out.1.cell 4)
  have B:∀W:WB i.heap.size i,W.w.cell? ⟨g,5,none⟩=some (.int .i64 d):=fun W=>(W.h.cell (p:=⟨g,5,none⟩) f.out.1.lt).trans (f.out.1.cell 5)
  refine zab i.heap.size i (by kernel_rfl) (by kernel_rfl) (Below.refl _ _) ?_
  iterate 27 (try go_big_quiet_step ((with_reducible refine Calls.grow ((o.out _ (by omega) (by omega)).mono (fun _ _ ⟨H,D⟩=>⟨H,D▸WB.h _⟩)))))
  refine wpQuiet_nil ?_;rintro _ ⟨n,rfl⟩;clear E z G B;have j:=f.out.1.below n.h f.out.1.lt;have K:n.w.cell? ⟨g,6,none⟩=some (.int .i64 h):=j.cell 6;have M:n.w.cell? ⟨g,7,none⟩=some (.int .i64 mi):=j.cell 7;have L:n.w.cell? ⟨g,8,none⟩=some (.int .i64 c):=j.cell 8;have F:n.w.cell? ⟨g,11,none⟩=some (.bool late):=j.cell 11;clear j;cases late
  all_goals go_wp2_with fail
  all_goals go_ret
  all_goals
   rw[s.out];refine⟨congrArg (fun b=>Ending.returned (.bool b)) ?_,f.out.2.trans (n.h.mono (Nat.le_of_lt f.out.1.lt))⟩;rw[<-J.out];unfold rngB;rw[C.out]
   first| (simp[*];done)| (simp;omega)
 all_goals
  have o:Hid (∀W,1<=m->m<=12->Calls prog 185 #[.int .i64 y,.int .i64 m] W fun e w'=>e=.returned (.int .i64 q)/\W=w'):=hid (fun W a b=>v.out a b W);go_enter func155,ntmps155;go_upto_region 1 with fail;obtain⟨g,k⟩:=ex w.heap.size
  obtain⟨i,l⟩:∃i,i=w.alloc (.cells #[.bool true,.bool time,.bool zone,.int .i64 y,.int .i64 m,.int .i64 d,.int .i64 h,.int .i64 mi,.int .i64 c,.int .i64 nanos,.int .i64 off,.bool late] 165):=⟨_,rfl⟩
  have f:Hid (Blk i g 165 (T12 true time zone y m d h mi c nanos off late)/\Below g w i):=hid (by rw[l,<-k];exact⟨Blk.new _ _ _,(Below.refl _ _).alloc (Nat.le_refl _) _⟩);have s:=hid k;(try rw[<-l]);(try rw[k]);clear l k;have E:∀W:WB i.heap.size i,W.w.cell? ⟨g,0,none⟩=some (.bool true):=fun W=>(W.h.cell (p:=⟨g,0,none⟩) f.out.1.lt).trans (f.out.1.cell 0)
  have z:∀W:WB i.heap.size i,W.w.cell? ⟨g,3,none⟩=some (.int .i64 y):=fun W=>(W.h.cell (p:=⟨g,3,none⟩) f.out.1.lt).trans (f.out.1.cell 3)
  have G:∀W:WB i.heap.size i,W.w.cell? ⟨g,4,none⟩=some (.int .i64 m):=fun W=>(W.h.cell (p:=⟨g,4,none⟩) f.out.1.lt).trans (f.out.1.cell 4)
  have B:∀W:WB i.heap.size i,W.w.cell? ⟨g,5,none⟩=some (.int .i64 d):=fun W=>(W.h.cell (p:=⟨g,5,none⟩) f.out.1.lt).trans (f.out.1.cell 5)
  refine zab i.heap.size i (by kernel_rfl) (by kernel_rfl) (Below.refl _ _) ?_
  iterate 27 (try go_big_quiet_step ((with_reducible refine Calls.grow ((o.out _ (by omega) (by omega)).mono (fun _ _ ⟨H,D⟩=>⟨H,D▸WB.h _⟩)))))
  refine wpQuiet_nil ?_;rintro _ ⟨n,rfl⟩;clear E z G B;have j:=f.out.1.below n.h f.out.1.lt;have K:n.w.cell? ⟨g,6,none⟩=some (.int .i64 h):=j.cell 6;have M:n.w.cell? ⟨g,7,none⟩=some (.int .i64 mi):=j.cell 7;have L:n.w.cell? ⟨g,8,none⟩=some (.int .i64 c):=j.cell 8;have F:n.w.cell? ⟨g,11,none⟩=some (.bool late):=j.cell 11;clear j;cases late
  all_goals go_wp2_with fail
  all_goals go_ret
  all_goals
   rw[s.out];refine⟨congrArg (fun b=>Ending.returned (.bool b)) ?_,f.out.2.trans (n.h.mono (Nat.le_of_lt f.out.1.lt))⟩;rw[<-J.out];unfold rngB;rw[C.out]
   first| (simp[*];done)| (simp;omega)
theorem zcc (x n:Nat) (i j:Int) (hi:i=(x:Int)) (hj:j=(n:Int)) (hx:x<=999999999) (hn:n<=9) (w:World):
 Calls prog 186 #[.int .i64 i,.int .i64 j] w fun e w'=>e=.returned (.string ⟨(Gr.pd n x).toArray⟩)/\Below w.heap.size w w':=by
 subst hi;subst hj;go_enter func186,ntmps186;go_wp2_with fail;go_loopw [0,5,6] (fun s0 s5 s6 wr=>∃k y:Nat,k<=n/\y<=999999999/\s0=.int .i64 (y:Int)/\s5=.string ⟨(Gr.pd k x).toArray⟩/\s6=.int .i64 (k:Int)/\Hid (y=x /10 ^ k/\Below w.heap.size w wr)) (fun _ _ s6 _=>n-(intOf s6).toNat)
 case atStart=>exact⟨0,x,by omega,hx,rfl,rfl,rfl,Lib.hid ⟨by simp,Below.refl _ _⟩⟩
 case round=>
  obtain⟨k,y,hk,hy,rfl,rfl,rfl,h⟩:=hrel;have a:=Gr.za2 k x;by_cases hlt:k<n
  .have d:(k:Int)<(n:Int):=by omega
   obtain⟨c,m⟩:∃c:UInt8,c=Gr.ch (y%10):=⟨_,rfl⟩
   have l:(48:Int)+(y:Int)%10=(c.toNat:Int):=by rw[m];unfold Gr.ch;rw[UInt8.toNat_ofNat'];omega
   have b:Hid (Gr.pd (k+1) x=[c]++Gr.pd k x/\y /10=x /10 ^ (k+1)):=Lib.hid ⟨by rw[Gr.zsk,<-h.out.1,<-m];rfl,by rw[h.out.1,Nat.div_div_eq_div_mul,Nat.pow_succ]⟩;have f:=fun W=>zac [c] (Gr.pd k x) (by rw[a];simp;omega) W
   have g:(convert 81 9 (.slice (some ⟨wr.heap.size,0,none⟩) 1 1)).run prog (wr.alloc (.cells #[.int .u8 (c.toNat:Int)] 5))=.ok (.string ⟨[c].toArray⟩) (wr.alloc (.cells #[.int .u8 (c.toNat:Int)] 5)):=zdv (B:=wr.heap.size+1) (wr.alloc (.cells #[.int .u8 (c.toNat:Int)] 5)) [c] (some ⟨wr.heap.size,0,none⟩) 1 (RowAt.lit1 c _ rfl _ rfl);rw[<-l]at g;obtain⟨p,o⟩:=ex (Gr.pd k x)
   rw[o]at f b ⊢;have hy10:(0:Int)<=(y:Int)%10:=by omega
   have hy11:(y:Int)%10<=9:=by omega
   clear l a o m;go_wp2;go_roundw
   case rel=>exact⟨k+1,y /10,by omega,by omega,by exact congrArg (Value.int .i64) (by omega),by rw[b.out.1];rfl,by go_num,Lib.hid ⟨b.out.2,h.out.2.alloc h.out.2.size _⟩⟩
   case measure=>simp[intOf];omega
  .obtain rfl:k=n:=by omega
   have d:¬(k:Int)<(k:Int):=by omega
   clear a;go_wp2;go_ret;exact⟨rfl,h.out.2⟩
end Go.Proofs.YtpjmhafmeieloabGreatDoor

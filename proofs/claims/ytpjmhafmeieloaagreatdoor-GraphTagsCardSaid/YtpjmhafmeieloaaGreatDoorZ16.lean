import Derived.Test.YtpjmhafmeieloaaGreatDoorGrInsR3
import Derived.Test.YtpjmhafmeieloaaGreatDoorZ02
namespace Go.Proofs.YtpjmhafmeieloaaGreatDoor
open _root_.Go.Proofs.Tryz
open _root_.Go.Lib (hid)
set_option maxRecDepth 100000
set_option maxHeartbeats 16000000
open Go.RowKit
theorem zcn (f:Nat) (w:World):(callFunc 109 #[.float .f64 f]).run prog w=.ok (.value (.int .u64 f)) w:=by
 rw[run_callFunc_extern func109 (by kernel_rfl) (by kernel_rfl) (by kernel_rfl) (e:=Extern.MathFloatBits.float64bits) (by kernel_rfl)];rfl
theorem zaz (n:Int) (w:World):(callFunc 99 #[.int .u64 n]).run prog w=.ok (.value (.float .f64 n.toNat)) w:=by
 rw[run_callFunc_extern func99 (by kernel_rfl) (by kernel_rfl) (by kernel_rfl) (e:=Extern.MathFloatBits.float64frombits) (by kernel_rfl)];rfl
theorem zg7 (f:Nat) (hf:f<9223372036854775808) (w:World):Calls prog 137 #[.float .f64 f] w fun e w'=>e=.returned (.float .f64 f)/\w=w':=by
 have c1:=fun W=>zcn f W
 have c2:=fun W=>zaz (f:Int) W
 have c3:=zjy f hf;go_enter func137,ntmps137;go_wp2;go_ret;exact⟨rfl,rfl⟩
theorem zpz (f:Nat) (hf:f<9223372036854775808) (w:World):Calls prog 105 #[.float .f64 f] w fun e w'=>e=.returned (.bool false)/\w=w':=by
 have c1:=fun W=>zcn f W
 have h0:(0:Int)<=(f:Int):=by omega
 have h1:(f:Int)<=9223372036854775807:=by omega
 have h2:IntKind.i64.wrap (f:Int)=(f:Int):=IntWalk.i64_in _ (by omega);have h3:decide ((f:Int)<0)=false:=by simp
 go_enter func105,ntmps105;go_wp2;go_ret;exact⟨rfl,rfl⟩
theorem zk9 (f:Nat) (hf:f<9223372036854775808) (ho:(FloatKind.f64.format.order f 9218868437227405311==some Ordering.gt)=false) (w:World):Calls prog 106 #[.float .f64 f,.int .i64 0] w fun e w'=>e=.returned (.bool false)/\w=w':=by
 have a:=hid (fun W=>zg7 f hf W);go_enter func106,ntmps106;go_wp2_with fail;refine(a.out _).mono ?_;rintro e w1 ⟨rfl,rfl⟩;go_wp2;go_ret;exact⟨rfl,rfl⟩
theorem zsy (f:Nat) (ho:(FloatKind.f64.format.order f f != some Ordering.eq)=false) (w:World):Calls prog 135 #[.float .f64 f] w fun e w'=>e=.returned (.bool false)/\w=w':=by
 go_enter func135,ntmps135;go_wp2;go_ret;exact⟨rfl,rfl⟩
theorem zp0 (f:Nat) (hf:f<9223372036854775808) (ho:(FloatKind.f64.format.order f 4503599627370496==some Ordering.lt)=false) (w:World):Calls prog 136 #[.float .f64 f] w fun e w'=>e=.returned (.tuple #[.float .f64 f,.int .i64 0])/\w=w':=by
 have a:=hid (fun W=>zg7 f hf W);go_enter func136,ntmps136;go_wp2_with fail;refine(a.out _).mono ?_;rintro e w1 ⟨rfl,rfl⟩;go_wp2;go_ret2;exact⟨rfl,rfl⟩
namespace Flt
section
variable {m L:Nat} {e:Int}
theorem Fits.o_max (h:Fits m L e):(FloatKind.f64.format.order (fw m L e) 9218868437227405311==some Ordering.gt)=false:=by
 show(Ieee.double.order (fw m L e) 9218868437227405311==some Ordering.gt)=false;rcases h.order_max with h1|h1<;>rw[h1]<;>rfl
theorem Fits.o_self (h:Fits m L e):(FloatKind.f64.format.order (fw m L e) (fw m L e) != some Ordering.eq)=false:=by
 show(Ieee.double.order (fw m L e) (fw m L e) != some Ordering.eq)=false;rw[h.order_self];rfl
theorem Fits.o_zero (h:Fits m L e):(FloatKind.f64.format.order (fw m L e) 0==some Ordering.eq)=false:=by
 show(Ieee.double.order (fw m L e) 0==some Ordering.eq)=false;rw[h.order_zero];rfl
theorem Fits.at0 (h:Fits m L e):Fits m L 0:=⟨h.odd,h.lo,h.hi,h.len,by omega,by have:=h.len;omega⟩
theorem Fits.o_norm (h:Fits m L 0):(FloatKind.f64.format.order (fw m L 0) 4503599627370496==some Ordering.lt)=false:=by
 show(Ieee.double.order (fw m L 0) 4503599627370496==some Ordering.lt)=false;obtain⟨a,b,c,d,f⟩:=h.sig_bd;have hlen:=h.len;have hlp:lastP L 0=(L:Int)-52:=by unfold lastP;omega
 have c2:4503599627370496<=sig m L 0:=by rcases c with c|c<;>omega
 unfold Ieee.Format.order;have g:Ieee.double.read 4503599627370496=.number false 4503599627370496 (-1074):=by decide
 rw[h.read,g];simp only[Ieee.Datum.order,Ieee.signed,Bool.false_eq_true,if_false];rw[show min (lastP L 0) (-1074)=-1074 from by omega,show((-1074:Int)- -1074).toNat=0 from rfl,Nat.shiftLeft_zero,Nat.shiftLeft_eq];have:sig m L 0<=sig m L 0*2 ^ (lastP L 0- -1074).toNat:=Nat.le_mul_of_pos_right _ (Nat.two_pow_pos _);generalize sig m L 0*2 ^ (lastP L 0- -1074).toNat=N at this;simp only[compare,compareOfLessAndEq];rw[if_neg (by omega)];split<;>rfl
theorem Fits.fw0 (h:Fits m L 0):fw m L 0=(L+1022)*4503599627370496+m*2 ^ (52-L):=by
 have hlen:=h.len;have a:lastP L 0=(L:Int)-52:=by unfold lastP;omega
 unfold fw sig;rw[a,show((L:Int)-52+1074).toNat=L+1022 from by omega,show(0-((L:Int)-52)).toNat=52-L from by omega]
theorem Fits.parts0 (h:Fits m L 0):fw m L 0 /4503599627370496=L+1023/\fw m L 0%4503599627370496=m*2 ^ (52-L)-4503599627370496:=by
 obtain⟨f1,f2⟩:=h.full;rw[h.fw0];omega
end
end Flt
open Flt in
theorem zp1 (m L:Nat) (e:Int) (h:Flt.Fits m L e) (f:Nat) (hf:fw m L 0=f) (w:World):Calls prog 104 #[.float .f64 f,.int .i64 e] w fun r w'=>r=.returned (.float .f64 (fw m L e))/\w=w':=by
 have a:=h.at0;have k:=a.fw_lt.2;have v:=a.o_zero;have o:=hid (fun W=>zk9 f (by omega) (by rw[<-hf];exact a.o_max) W);have s:=hid (fun W=>zsy f (by rw[<-hf];exact a.o_self) W);have n:=hid (fun W=>zp0 f (by omega) (by rw[<-hf];exact a.o_norm) W);obtain⟨j,i⟩:=a.parts0;rw[hf]at v j i k;have c1:=fun W=>zcn f W
 have hlen:=h.len;have he0:=h.e0;have he1:=h.e1;have q:=hid h;have i1:(f:Int) /4503599627370496=(L:Int)+1023:=by omega
 have i2:IntKind.i64.wrap ((L:Int)+1023)=(L:Int)+1023:=IntWalk.i64_in _ (by omega);have i3:bits .and .i64 ((L:Int)+1023) 2047=(L:Int)+1023:=by have:=zv9 (L+1023) (by omega);simpa using this
 have p:bits .andNot .u64 (f:Int) 9218868437227405312=((m*2 ^ (52-L)-4503599627370496:Nat):Int):=by rw[zmv f (by omega),i]
 have g:m*2 ^ (52-L)-4503599627370496<4503599627370496:=by omega
 by_cases hn:-1022<=e+L
 .obtain⟨X,c⟩:=ex ((e+L+1023).toNat*4503599627370496+(m*2 ^ (52-L)-4503599627370496))
  have b:=q.out.mul_one hn;have l:bits .or .u64 ((m*2 ^ (52-L)-4503599627370496:Nat):Int) ((e+(L:Int)+1023)*4503599627370496)=(X:Int):=by
   have:=zpy (m*2 ^ (52-L)-4503599627370496) (e+L+1023).toNat g (by omega);rw[c]at this;rw[show(e+(L:Int)+1023)*4503599627370496=(((e+L+1023).toNat*4503599627370496:Nat):Int)from by omega];exact this
  rw[c]at b;have t:=fun W=>zaz (X:Int) W
  have u:=fun W=>run_float_arith (P:=prog) (w:=W) .mul 87 .f64 4607182418800017408 X (fw m L e) b
  obtain⟨Q,d⟩:=ex (m*2 ^ (52-L)-4503599627370496)
  rw[d]at p l;clear h a hf j i g c b d;go_enter func104,ntmps104;go_wp2_with (first| ((with_reducible refine(o.out _).mono ?_);rintro _ _ ⟨rfl,rfl⟩)| ((with_reducible refine(s.out _).mono ?_);rintro _ _ ⟨rfl,rfl⟩)| ((with_reducible refine(n.out _).mono ?_);rintro _ _ ⟨rfl,rfl⟩));go_ret;exact⟨rfl,rfl⟩
 .obtain⟨X,c⟩:=ex ((e+L+1076).toNat*4503599627370496+(m*2 ^ (52-L)-4503599627370496))
  have b:=q.out.mul_small (by omega);have l:bits .or .u64 ((m*2 ^ (52-L)-4503599627370496:Nat):Int) ((e+(L:Int)+53+1023)*4503599627370496)=(X:Int):=by
   have:=zpy (m*2 ^ (52-L)-4503599627370496) (e+L+1076).toNat g (by omega);rw[c]at this;rw[show(e+(L:Int)+53+1023)*4503599627370496=(((e+L+1076).toNat*4503599627370496:Nat):Int)from by omega];exact this
  rw[c]at b;have t:=fun W=>zaz (X:Int) W
  have u:=fun W=>run_float_arith (P:=prog) (w:=W) .mul 87 .f64 4368491638549381120 X (fw m L e) b
  obtain⟨Q,d⟩:=ex (m*2 ^ (52-L)-4503599627370496)
  rw[d]at p l;clear h a hf j i g c b d;go_enter func104,ntmps104;go_wp2_with (first| ((with_reducible refine(o.out _).mono ?_);rintro _ _ ⟨rfl,rfl⟩)| ((with_reducible refine(s.out _).mono ?_);rintro _ _ ⟨rfl,rfl⟩)| ((with_reducible refine(n.out _).mono ?_);rintro _ _ ⟨rfl,rfl⟩));go_ret;exact⟨rfl,rfl⟩
def rngB (date:Bool) (y m d h mi c:Int) (late:Bool):Bool:=(!date || (decide (1<=m) && decide (m<=12) && decide (1<=d) && decide (d<=Cal.dim y m))) && !late && decide (h<=23) && decide (mi<=59) && decide (c<=59)
theorem zeg (date time zone:Bool) (y m d h mi c nanos off:Int) (late:Bool) (w:World):
 Calls prog 153 #[.agg #[.bool date,.bool time,.bool zone,.int .i64 y,.int .i64 m,.int .i64 d,.int .i64 h,.int .i64 mi,.int .i64 c,.int .i64 nanos,.int .i64 off,.bool late]] w fun e w'=>e=.returned (.bool (rngB date y m d h mi c late))/\Below w.heap.size w w':=by
 have I:date=false\/(date=true/\m<1)\/(date=true/\¬m<1/\12<m)\/(date=true/\¬m<1/\¬12<m/\d<1)\/(date=true/\¬m<1/\¬12<m/\¬d<1/\Cal.dim y m<d)\/(date=true/\¬m<1/\¬12<m/\¬d<1/\¬Cal.dim y m<d):=by
  cases date<;>simp<;>omega
 obtain⟨q,z⟩:=ex (Cal.dim y m)
 have x:=hid z;rw[z]at I;clear z;have v:Hid (1<=m->m<=12->∀W,Calls prog 183 #[.int .i64 y,.int .i64 m] W fun e w'=>e=.returned (.int .i64 q)/\W=w'):=hid (fun t u W=>by rw[<-x.out];exact zd6 y m t u W);obtain⟨r,E⟩:=ex (rngB date y m d h mi c late)
 have J:=hid E;rw[E];clear E;rcases I with rfl|⟨rfl,t⟩|⟨rfl,t,u⟩|⟨rfl,t,u,h3⟩|⟨rfl,t,u,h3,h4⟩|⟨rfl,t,u,h3,h4⟩
 .have o:Hid (∀W,1<=m->m<=12->Calls prog 183 #[.int .i64 y,.int .i64 m] W fun e w'=>e=.returned (.int .i64 q)/\W=w'):=hid (fun W a b=>v.out a b W);go_enter func153,ntmps153;go_upto_region 1 with fail;obtain⟨g,k⟩:=ex w.heap.size
  obtain⟨i,l⟩:∃i,i=w.alloc (.cells #[.bool false,.bool time,.bool zone,.int .i64 y,.int .i64 m,.int .i64 d,.int .i64 h,.int .i64 mi,.int .i64 c,.int .i64 nanos,.int .i64 off,.bool late] 162):=⟨_,rfl⟩
  have f:Hid (Blk i g 162 (T12 false time zone y m d h mi c nanos off late)/\Below g w i):=hid (by rw[l,<-k];exact⟨Blk.new _ _ _,(Below.refl _ _).alloc (Nat.le_refl _) _⟩);have s:=hid k;(try rw[<-l]);(try rw[k]);clear l k;have C:∀W:WB i.heap.size i,W.w.cell? ⟨g,0,none⟩=some (.bool false):=fun W=>(W.h.cell (p:=⟨g,0,none⟩) f.out.1.lt).trans (f.out.1.cell 0)
  have D:∀W:WB i.heap.size i,W.w.cell? ⟨g,3,none⟩=some (.int .i64 y):=fun W=>(W.h.cell (p:=⟨g,3,none⟩) f.out.1.lt).trans (f.out.1.cell 3)
  have B:∀W:WB i.heap.size i,W.w.cell? ⟨g,4,none⟩=some (.int .i64 m):=fun W=>(W.h.cell (p:=⟨g,4,none⟩) f.out.1.lt).trans (f.out.1.cell 4)
  have A:∀W:WB i.heap.size i,W.w.cell? ⟨g,5,none⟩=some (.int .i64 d):=fun W=>(W.h.cell (p:=⟨g,5,none⟩) f.out.1.lt).trans (f.out.1.cell 5)
  refine zaa i.heap.size i (by kernel_rfl) (by kernel_rfl) (Below.refl _ _) ?_
  iterate 27 (try go_big_quiet_step ((with_reducible refine Calls.grow ((o.out _ (by omega) (by omega)).mono (fun _ _ ⟨H,G⟩=>⟨H,G▸WB.h _⟩)))))
  refine wpQuiet_nil ?_;rintro _ ⟨n,rfl⟩;clear C D B A;have j:=f.out.1.below n.h f.out.1.lt;have L:n.w.cell? ⟨g,6,none⟩=some (.int .i64 h):=j.cell 6;have M:n.w.cell? ⟨g,7,none⟩=some (.int .i64 mi):=j.cell 7;have K:n.w.cell? ⟨g,8,none⟩=some (.int .i64 c):=j.cell 8;have F:n.w.cell? ⟨g,11,none⟩=some (.bool late):=j.cell 11;clear j;cases late
  all_goals go_wp2_with fail
  all_goals go_ret
  all_goals
   rw[s.out];refine⟨congrArg (fun b=>Ending.returned (.bool b)) ?_,f.out.2.trans (n.h.mono (Nat.le_of_lt f.out.1.lt))⟩;rw[<-J.out];unfold rngB;rw[x.out]
   first| (simp[*];done)| (simp;omega)
 all_goals
  have o:Hid (∀W,1<=m->m<=12->Calls prog 183 #[.int .i64 y,.int .i64 m] W fun e w'=>e=.returned (.int .i64 q)/\W=w'):=hid (fun W a b=>v.out a b W);go_enter func153,ntmps153;go_upto_region 1 with fail;obtain⟨g,k⟩:=ex w.heap.size
  obtain⟨i,l⟩:∃i,i=w.alloc (.cells #[.bool true,.bool time,.bool zone,.int .i64 y,.int .i64 m,.int .i64 d,.int .i64 h,.int .i64 mi,.int .i64 c,.int .i64 nanos,.int .i64 off,.bool late] 162):=⟨_,rfl⟩
  have f:Hid (Blk i g 162 (T12 true time zone y m d h mi c nanos off late)/\Below g w i):=hid (by rw[l,<-k];exact⟨Blk.new _ _ _,(Below.refl _ _).alloc (Nat.le_refl _) _⟩);have s:=hid k;(try rw[<-l]);(try rw[k]);clear l k;have C:∀W:WB i.heap.size i,W.w.cell? ⟨g,0,none⟩=some (.bool true):=fun W=>(W.h.cell (p:=⟨g,0,none⟩) f.out.1.lt).trans (f.out.1.cell 0)
  have D:∀W:WB i.heap.size i,W.w.cell? ⟨g,3,none⟩=some (.int .i64 y):=fun W=>(W.h.cell (p:=⟨g,3,none⟩) f.out.1.lt).trans (f.out.1.cell 3)
  have B:∀W:WB i.heap.size i,W.w.cell? ⟨g,4,none⟩=some (.int .i64 m):=fun W=>(W.h.cell (p:=⟨g,4,none⟩) f.out.1.lt).trans (f.out.1.cell 4)
  have A:∀W:WB i.heap.size i,W.w.cell? ⟨g,5,none⟩=some (.int .i64 d):=fun W=>(W.h.cell (p:=⟨g,5,none⟩) f.out.1.lt).trans (f.out.1.cell 5)
  refine zaa i.heap.size i (by kernel_rfl) (by kernel_rfl) (Below.refl _ _) ?_
  iterate 27 (try go_big_quiet_step ((with_reducible refine Calls.grow ((o.out _ (by omega) (by omega)).mono (fun _ _ ⟨H,G⟩=>⟨H,G▸WB.h _⟩)))))
  refine wpQuiet_nil ?_;rintro _ ⟨n,rfl⟩;clear C D B A;have j:=f.out.1.below n.h f.out.1.lt;have L:n.w.cell? ⟨g,6,none⟩=some (.int .i64 h):=j.cell 6;have M:n.w.cell? ⟨g,7,none⟩=some (.int .i64 mi):=j.cell 7;have K:n.w.cell? ⟨g,8,none⟩=some (.int .i64 c):=j.cell 8;have F:n.w.cell? ⟨g,11,none⟩=some (.bool late):=j.cell 11;clear j;cases late
  all_goals go_wp2_with fail
  all_goals go_ret
  all_goals
   rw[s.out];refine⟨congrArg (fun b=>Ending.returned (.bool b)) ?_,f.out.2.trans (n.h.mono (Nat.le_of_lt f.out.1.lt))⟩;rw[<-J.out];unfold rngB;rw[x.out]
   first| (simp[*];done)| (simp;omega)
theorem zi1 (date time zone:Bool) (y m d h mi c nanos off:Int) (late:Bool) (h0:0<=y) (h1:y<=9999) (h2:1<=m) (h3:m<=12) (h4:0<=d) (h5:d<=1000) (h6:0<=h) (h7:h<=1000) (h8:0<=mi) (h9:mi<=1000) (h10:0<=c) (h11:c<=1000) (h12:-1000000<=off) (h13:off<=1000000) (w:World):
 Calls prog 177 #[.agg #[.bool date,.bool time,.bool zone,.int .i64 y,.int .i64 m,.int .i64 d,.int .i64 h,.int .i64 mi,.int .i64 c,.int .i64 nanos,.int .i64 off,.bool late]] w fun e w'=>e=.returned (.int .i64 (86400*Cal.num y m d+3600*h+60*mi+c-off))/\Below w.heap.size w w':=by
 have t:=Lib.hid (fun W=>ziu y m d h0 (by omega) h2 h3 h4 h5 W);have l:=Cal.zxt y h0 (by omega);have n:=Cal.zxx y m;have r:-800000<=Cal.num y m d:=by unfold Cal.num;omega
 have k:Cal.num y m d<=4000000:=by unfold Cal.num;omega
 obtain⟨q,s⟩:=ex (Cal.num y m d)
 rw[s]at t r k ⊢;clear l n s;go_enter func177,ntmps177;go_upto_region 1 with fail;obtain⟨f,g⟩:=ex w.heap.size
 obtain⟨b,i⟩:∃b,b=w.alloc (.cells #[.bool date,.bool time,.bool zone,.int .i64 y,.int .i64 m,.int .i64 d,.int .i64 h,.int .i64 mi,.int .i64 c,.int .i64 nanos,.int .i64 off,.bool late] 162):=⟨_,rfl⟩
 have a:Hid (Blk b f 162 (T12 date time zone y m d h mi c nanos off late)/\Below f w b):=Lib.hid (by rw[i,<-g];exact⟨Blk.new _ _ _,(Below.refl _ _).alloc (Nat.le_refl _) _⟩);have o:=Lib.hid g;(try rw[<-i]);(try rw[g]);clear i g;have A:∀W:WB b.heap.size b,W.w.cell? ⟨f,3,none⟩=some (.int .i64 y):=fun W=>(W.h.cell (p:=⟨f,3,none⟩) a.out.1.lt).trans (a.out.1.cell 3)
 have z:∀W:WB b.heap.size b,W.w.cell? ⟨f,4,none⟩=some (.int .i64 m):=fun W=>(W.h.cell (p:=⟨f,4,none⟩) a.out.1.lt).trans (a.out.1.cell 4)
 have x:∀W:WB b.heap.size b,W.w.cell? ⟨f,5,none⟩=some (.int .i64 d):=fun W=>(W.h.cell (p:=⟨f,5,none⟩) a.out.1.lt).trans (a.out.1.cell 5)
 have u:∀W:WB b.heap.size b,W.w.cell? ⟨f,6,none⟩=some (.int .i64 h):=fun W=>(W.h.cell (p:=⟨f,6,none⟩) a.out.1.lt).trans (a.out.1.cell 6)
 have v:∀W:WB b.heap.size b,W.w.cell? ⟨f,7,none⟩=some (.int .i64 mi):=fun W=>(W.h.cell (p:=⟨f,7,none⟩) a.out.1.lt).trans (a.out.1.cell 7)
 have B:∀W:WB b.heap.size b,W.w.cell? ⟨f,8,none⟩=some (.int .i64 c):=fun W=>(W.h.cell (p:=⟨f,8,none⟩) a.out.1.lt).trans (a.out.1.cell 8)
 have j:∀W:WB b.heap.size b,W.w.cell? ⟨f,10,none⟩=some (.int .i64 off):=fun W=>(W.h.cell (p:=⟨f,10,none⟩) a.out.1.lt).trans (a.out.1.cell 10)
 have x1:IntKind.i64.wrap (86400*q)=86400*q:=IntWalk.i64_in _ (by omega);have x2:IntKind.i64.wrap (3600*h)=3600*h:=IntWalk.i64_in _ (by omega);have x3:IntKind.i64.wrap (86400*q+3600*h)=86400*q+3600*h:=IntWalk.i64_in _ (by omega);have x4:IntKind.i64.wrap (60*mi)=60*mi:=IntWalk.i64_in _ (by omega);have x5:IntKind.i64.wrap (86400*q+3600*h+60*mi)=86400*q+3600*h+60*mi:=IntWalk.i64_in _ (by omega);have x6:IntKind.i64.wrap (86400*q+3600*h+60*mi+c)=86400*q+3600*h+60*mi+c:=IntWalk.i64_in _ (by omega);have x7:IntKind.i64.wrap (86400*q+3600*h+60*mi+c-off)=86400*q+3600*h+60*mi+c-off:=IntWalk.i64_in _ (by omega);refine zaa b.heap.size b (by kernel_rfl) (by kernel_rfl) (Below.refl _ _) ?_
 iterate 23 (try go_big_quiet_step ((with_reducible refine Calls.grow ((t.out _).mono (fun _ _ ⟨D,C⟩=>⟨D,C▸WB.h _⟩)))))
 refine wpQuiet_nil ?_;rintro _ ⟨E,rfl⟩;clear A z x u v B j;go_wp2;go_ret;rw[o.out];exact⟨rfl,a.out.2.trans (E.h.mono (Nat.le_of_lt a.out.1.lt))⟩
open Gr
theorem zv4 (s:Gr.Str) (a:Nat) (ha:a=if s.head?=some 45 then 1 else 0):intB s=if a=s.length\/s.length-a>400\/((s.drop a).head?=some 48/\s.length>1)then false else(s.drop a).all Gr.dig:=by
 cases s with
 |nil=>subst ha;decide
 |cons c r=>
  by_cases hc:c=45
  .subst hc;obtain rfl:a=1:=by rw[ha];rfl
   cases r with
   |nil=>decide
   |cons d r=>
    have e:intS (45::d::r)=d::r:=by unfold intS;rw[if_pos ⟨by simp,rfl⟩];rfl
    unfold intB;rw[e];simp only[List.drop_succ_cons,List.drop_zero];by_cases h:(d::r).length>400\/((d::r).head?=some 48/\(45::d::r).length>1)
    .rw[if_pos (.inr h),if_pos (.inr (h.imp (fun h=>by simpa using h) id))]
    .rw[if_neg (by rintro(h1|h1);simp at h1;exact h h1),if_neg (by rintro(h1|h1);simp at h1;exact h (h1.imp (fun h=>by simpa using h) id))]
  .obtain rfl:a=0:=by rw[ha,if_neg (by simp[hc])]
   have e:intS (c::r)=c::r:=by unfold intS;rw[if_neg (by simp[hc])]
   unfold intB;rw[e,List.drop_zero];by_cases h:(c::r).length>400\/((c::r).head?=some 48/\(c::r).length>1)
   .rw[if_pos (.inr h),if_pos (.inr (by simpa using h))]
   .rw[if_neg (by rintro(h1|h1);simp at h1;exact h h1),if_neg (by rintro(h1|h1);simp at h1;exact h (by simpa using h1))]
theorem zk7 (c:UInt8) (b:Nat) (hb:c.toNat=b):Gr.dig c=(decide (48<=b) && decide (b<=57)):=by
 subst hb;unfold Gr.dig;rw[Bool.eq_iff_iff];simp[UInt8.le_iff_toNat_le]
theorem all_at {s:Gr.Str} {a k:Nat} (h:k<s.length) (hak:a<=k) (hd:Gr.dig s[k]=false):(s.drop a).all Gr.dig=false:=by
 rw[List.all_eq_false];refine⟨s[k],?_,by rw[hd];decide⟩;have:s[k]=(s.drop a)[k-a]'(by rw[List.length_drop];omega):=by rw[List.getElem_drop];congr 1;omega
 rw[this];exact List.getElem_mem _
theorem zfj (s:Gr.Str) (hl:s.length<=1073741823) (a:Nat) (ha:a<=s.length) (w:World) (r:Bool) (hr:Hid ((s.drop a).all Gr.dig=r)) {u1 u2 u4 u5 u6 u7 u8 u9 u10 u11 u12 u13 u14 u15 u16 u17 u18 u19 u20 u21 u22 u23 u24 u25 u26 u27 u28 u29 u30 u31 u32 u33 u34 u35 u36 u37 u38 u39 u40 u41 u42 u43 u44 u45 u46 u47 u48 u49 u50 u51:Value}:
 Code.wp prog (tl 4 (f86.body.getD .skip)) (bodyPost prog f86 (fun e w'=>e=.returned (.bool r)/\w=w')) {tmps:=List.toArray (.string ⟨s.toArray⟩::u1::u2::.int .i64 (a:Int)::u4::u5::u6::u7::u8::u9::u10::u11::u12::u13::u14::u15::u16::u17::u18::u19::u20::u21::u22::u23::u24::u25::u26::u27::u28::u29::u30::u31::u32::u33::u34::u35::u36::u37::u38::u39::u40::u41::u42::u43::u44::u45::u46::u47::u48::u49::u50::u51::[]),defers:=[]} w:=by
 generalize hc0:tl 4 (f86.body.getD .skip)=c0;simp only[tl,f86,Option.getD_some]at hc0;subst hc0;go_wp2_with fail;go_loop [4] (fun s4=>∃k:Nat,a<=k/\k<=s.length/\s4=.int .i64 (k:Int)/\Hid (∀j (h:j<s.length),a<=j->j<k->Gr.dig s[j]=true)) (fun s4=>s.length-(intOf s4).toNat)
 case atStart=>exact⟨a,Nat.le_refl _,ha,rfl,hid (fun j _ n t=>by omega)⟩
 case round=>
  obtain⟨k,d,hk,rfl,o⟩:=hrel;by_cases hlt:k<s.length
  .have f:(k:Int)<(s.length:Int):=by omega
   obtain⟨b,i⟩:∃b:Nat,(s[k]'hlt).toNat=b:=⟨_,rfl⟩
   have hbv:(((⟨s.toArray⟩:ByteArray)[k]'(by simpa[ByteArray.size]using hlt)).toNat:Int)=(b:Int):=by rw[<-i];rfl
   have c:=hid (zk7 (s[k]'hlt) b i);clear i;by_cases h48:48<=b
   .have l:¬(b:Int)<48:=by omega
    by_cases h57:b<=57
    .have m:¬(57:Int)<(b:Int):=by omega
     go_wp2;go_round
     case rel=>exact⟨k+1,by omega,by omega,by go_num,hid (fun j h n t=>by
      by_cases e:j=k
      .subst e;rw[c.out];simp[h48,h57]
      .exact o.out j h n (by omega))⟩
     case measure=>simp[intOf];omega
    .have m:(57:Int)<(b:Int):=by omega
     have g:Hid (r=false):=hid (by rw[<-hr.out];exact all_at hlt d (by rw[c.out];simp[h57]));go_wp2;go_ret;rw[g.out];exact⟨rfl,rfl⟩
   .have l:(b:Int)<48:=by omega
    have g:Hid (r=false):=hid (by rw[<-hr.out];exact all_at hlt d (by rw[c.out];simp[h48]));go_wp2;go_ret;rw[g.out];exact⟨rfl,rfl⟩
  .have f:¬(k:Int)<(s.length:Int):=by omega
   have g:Hid (r=true):=hid (by
    rw[<-hr.out,List.all_eq_true];intro x q;obtain⟨j,p,rfl⟩:=List.getElem_of_mem q;rw[List.length_drop]at p;rw[List.getElem_drop];exact o.out (a+j) (by omega) (by omega) (by omega))
   go_wp2;go_ret;rw[g.out];exact⟨rfl,rfl⟩
theorem zdb (s:Gr.Str) (hl:s.length<=1073741823) (a:Nat) (ha:a<=s.length) (w:World) (r:Bool) (hr:Hid ((if a=s.length\/s.length-a>400\/((s.drop a).head?=some 48/\s.length>1)then false else(s.drop a).all Gr.dig)=r)) {u1 u2 u4 u5 u6 u7 u8 u9 u10 u11 u12 u13 u14 u15 u16 u17 u18 u19 u20 u21 u22 u23 u24 u25 u26 u27 u28 u29 u30 u31 u32 u33 u34 u35 u36 u37 u38 u39 u40 u41 u42 u43 u44 u45 u46 u47 u48 u49 u50 u51:Value}:
 Code.wp prog (tl 3 (f86.body.getD .skip)) (bodyPost prog f86 (fun e w'=>e=.returned (.bool r)/\w=w')) {tmps:=List.toArray (.string ⟨s.toArray⟩::u1::u2::.int .i64 (a:Int)::u4::u5::u6::u7::u8::u9::u10::u11::u12::u13::u14::u15::u16::u17::u18::u19::u20::u21::u22::u23::u24::u25::u26::u27::u28::u29::u30::u31::u32::u33::u34::u35::u36::u37::u38::u39::u40::u41::u42::u43::u44::u45::u46::u47::u48::u49::u50::u51::[]),defers:=[]} w:=by
 generalize hc0:tl 3 (f86.body.getD .skip)=c0;simp only[tl,f86,Option.getD_some]at hc0;subst hc0;by_cases h1:a=s.length
 .have f:((a:Int)==(s.length:Int))=true:=by rw[beq_iff_eq];omega
  have d:Hid (r=false):=hid (by rw[<-hr.out,if_pos (.inl h1)]);clear h1;go_wp2;go_ret;rw[d.out];exact⟨rfl,rfl⟩
 .have f:((a:Int)==(s.length:Int))=false:=by rw[beq_eq_false_iff_ne];omega
  have b:a<s.length:=by omega
  by_cases h2:s.length-a>400
  .have g:(400:Int)<(s.length:Int)-(a:Int):=by omega
   have d:Hid (r=false):=hid (by rw[<-hr.out,if_pos (.inr (.inl h2))]);clear h1 h2;go_wp2;go_ret;rw[d.out];exact⟨rfl,rfl⟩
  .have g:¬(400:Int)<(s.length:Int)-(a:Int):=by omega
   have c:(s.drop a).head?=some s[a]:=by rw[List.head?_drop,List.getElem?_eq_getElem b]
   by_cases h3:s[a]=48
   .have m:=zax s a b _ 48 48 rfl rfl h3;have l:=zaq s a b _ 48 48 rfl rfl h3;by_cases h4:s.length>1
    .have k:(1:Int)<(s.length:Int):=by omega
     have d:Hid (r=false):=hid (by rw[<-hr.out,if_pos (.inr (.inr ⟨by rw[c,h3],h4⟩))]);clear h1 h2 h3 c;go_wp2;go_ret;rw[d.out];exact⟨rfl,rfl⟩
    .have k:¬(1:Int)<(s.length:Int):=by omega
     have i:Hid ((s.drop a).all Gr.dig=r):=hid (by rw[<-hr.out,if_neg (by rintro(h|h|⟨_,h⟩);exact h1 h;exact h2 h;exact h4 h)]);clear h1 h2 h3 c;go_upto_if 34 with fail;go_cut [] (fun j=>j=w)
     case first=>
      go_wp2;go_meet;exact rfl
     case rest=>
     subst hcut;refine(‹∀(a:Act) (w_1:World),Code.wp prog _ _ a w_1->_›) _ _ ?_;exact zfj s hl a ha _ r i
   .have m:=zao s a b _ 48 48 rfl rfl h3;have l:=zar s a b _ 48 48 rfl rfl h3;have i:Hid ((s.drop a).all Gr.dig=r):=hid (by rw[<-hr.out,if_neg (by rintro(h|h|⟨h,_⟩);exact h1 h;exact h2 h;rw[c]at h;injection h with h;exact h3 h)]);clear h1 h2 h3 c;go_upto_if 34 with fail;go_cut [] (fun j=>j=w)
    case first=>
     go_wp2;go_meet;exact rfl
    case rest=>
    subst hcut;refine(‹∀(a:Act) (w_1:World),Code.wp prog _ _ a w_1->_›) _ _ ?_;exact zfj s hl a ha _ r i
theorem zge (s:Gr.Str) (hl:s.length<=1073741823) (w:World):Calls prog 86 #[.string ⟨s.toArray⟩] w fun e w'=>e=.returned (.bool (intB s))/\w=w':=by
 obtain⟨r,h⟩:=ex (intB s)
 rw[h];have b:=fun(a:Nat) ha=>hid ((zv4 s a ha).symm.trans h)
 clear h;by_cases h0:0<s.length
 .have g:(0:Int)<(s.length:Int):=by omega
  have f:s.head?=some s[0]:=by rw[List.head?_eq_getElem?,List.getElem?_eq_getElem h0]
  by_cases h45:s[0]=45
  .have j:=zax s 0 h0 _ 45 45 rfl rfl h45;have i:=zaq s 0 h0 _ 45 45 rfl rfl h45;have c:=b 1 (by rw[f,h45];rfl);clear b f h45;go_enter func86,ntmps86;go_upto_if 12 with fail;go_cut [3] (fun s3 d=>s3=.int .i64 ((1:Nat):Int)/\d=w)
   case first=>
    go_wp2;go_meet;exact⟨rfl,rfl⟩
   case rest=>
   obtain⟨rfl,rfl⟩:=hcut;refine(‹∀(a:Act) (w_1:World),Code.wp prog _ _ a w_1->_›) _ _ ?_;exact zdb s hl 1 (by omega) _ r c
  .have j:=zao s 0 h0 _ 45 45 rfl rfl h45;have i:=zar s 0 h0 _ 45 45 rfl rfl h45;have c:=b 0 (by rw[f,if_neg (by intro e;injection e with e;exact h45 e)]);clear b f h45;go_enter func86,ntmps86;go_upto_if 12 with fail;go_cut [3] (fun s3 d=>s3=.int .i64 ((0:Nat):Int)/\d=w)
   case first=>
    go_wp2;go_meet;exact⟨rfl,rfl⟩
   case rest=>
   obtain⟨rfl,rfl⟩:=hcut;refine(‹∀(a:Act) (w_1:World),Code.wp prog _ _ a w_1->_›) _ _ ?_;exact zdb s hl 0 (by omega) _ r c
 .have g:¬(0:Int)<(s.length:Int):=by omega
  have c:=b 0 (by rw[show s=[]from List.eq_nil_of_length_eq_zero (by omega)];rfl);clear b;go_enter func86,ntmps86;go_upto_if 12 with fail;go_cut [3] (fun s3 d=>s3=.int .i64 ((0:Nat):Int)/\d=w)
  case first=>
   go_wp2;go_meet;exact⟨rfl,rfl⟩
  case rest=>
  obtain⟨rfl,rfl⟩:=hcut;refine(‹∀(a:Act) (w_1:World),Code.wp prog _ _ a w_1->_›) _ _ ?_;exact zdb s hl 0 (by omega) _ r c
end Go.Proofs.YtpjmhafmeieloaaGreatDoor

import Derived.Test.YtoigpackhninoaaGreatDoorZ03
import Derived.Test.YtoigpackhninoaaGreatDoorZ05
namespace Go.Proofs.YtoigpackhninoaaGreatDoor
open _root_.Go.Proofs.Tryz
open _root_.Go.Lib (hid)
set_option maxRecDepth 100000
set_option maxHeartbeats 16000000
open Go.RowKit
theorem zh8 (sh y m d h mi c zh zm nanos z:Int) (hv:Cal.vld y m d=true) (h0:0<=h) (h1:h<=1000) (h2:0<=mi) (h3:mi<=1000) (h4:0<=c) (h5:c<=1000) (h6:0<=zh) (h7:zh<=1000) (h8:0<=zm) (h9:zm<=1000) (w:World):
 Calls prog 95 #[.agg #[.int .i64 sh,.int .i64 y,.int .i64 m,.int .i64 d,.int .i64 h,.int .i64 mi,.int .i64 c,.int .i64 zh,.int .i64 zm,.int .i64 nanos,.int .u8 z]] w fun e w'=>e=.returned (.int .i64 (if z=43 then Cal.num y m d*86400+h*3600+mi*60+c-(zh*3600+zm*60)else Cal.num y m d*86400+h*3600+mi*60+c+(zh*3600+zm*60)))/\Below w.heap.size w w':=by
 have t:=hid (fun W=>zk2 y m d hv W);have x:=Cal.zyu hv;obtain⟨q,v⟩:=ex (Cal.num y m d)
 rw[v]at t x ⊢;obtain⟨hb0,hb1⟩:=x;clear v hv;obtain⟨r,o⟩:=ex (if z=43 then q*86400+h*3600+mi*60+c-(zh*3600+zm*60)else q*86400+h*3600+mi*60+c+(zh*3600+zm*60))
 have u:=hid o;rw[o];clear o;go_enter func95,ntmps95;go_upto_region 1 with fail;obtain⟨f,g⟩:=ex w.heap.size
 obtain⟨k,l⟩:∃k,k=w.alloc (.cells #[.int .i64 sh,.int .i64 y,.int .i64 m,.int .i64 d,.int .i64 h,.int .i64 mi,.int .i64 c,.int .i64 zh,.int .i64 zm,.int .i64 nanos,.int .u8 z] 135):=⟨_,rfl⟩
 have b:Hid (Blk k f 135 #[.int .i64 sh,.int .i64 y,.int .i64 m,.int .i64 d,.int .i64 h,.int .i64 mi,.int .i64 c,.int .i64 zh,.int .i64 zm,.int .i64 nanos,.int .u8 z]/\Below f w k):=hid (by rw[l,<-g];exact⟨Blk.new _ _ _,(Below.refl _ _).alloc (Nat.le_refl _) _⟩);have n:=hid g;(try rw[<-l]);(try rw[g]);clear l g;have C:k.cell? ⟨f,1,none⟩=some (.int .i64 y):=b.out.1.cell 1;have A:k.cell? ⟨f,2,none⟩=some (.int .i64 m):=b.out.1.cell 2;have B:k.cell? ⟨f,3,none⟩=some (.int .i64 d):=b.out.1.cell 3;go_wp2_with fail;refine(t.out _).mono ?_;rintro e i ⟨rfl,j⟩;have a:Hid (Blk i f 135 #[.int .i64 sh,.int .i64 y,.int .i64 m,.int .i64 d,.int .i64 h,.int .i64 mi,.int .i64 c,.int .i64 zh,.int .i64 zm,.int .i64 nanos,.int .u8 z]/\Below f w i):=hid ⟨b.out.1.below j b.out.1.lt,b.out.2.trans (j.mono (Nat.le_of_lt b.out.1.lt))⟩;clear j C A B;have q4:i.cell? ⟨f,4,none⟩=some (.int .i64 h):=a.out.1.cell 4;have q5:i.cell? ⟨f,5,none⟩=some (.int .i64 mi):=a.out.1.cell 5;have q6:i.cell? ⟨f,6,none⟩=some (.int .i64 c):=a.out.1.cell 6;have q7:i.cell? ⟨f,7,none⟩=some (.int .i64 zh):=a.out.1.cell 7;have q8:i.cell? ⟨f,8,none⟩=some (.int .i64 zm):=a.out.1.cell 8;have q10:i.cell? ⟨f,10,none⟩=some (.int .u8 z):=a.out.1.cell 10;by_cases hz:z=43
 ·have s:(z==43)=true:=by simpa using hz
  have p:Hid (r=q*86400+h*3600+mi*60+c-(zh*3600+zm*60)):=hid (by rw[<-u.out,if_pos hz]);clear hz;go_wp2;go_ret;rw[p.out,n.out];exact⟨rfl,a.out.2⟩
 ·have s:(z==43)=false:=by simpa using hz
  have p:Hid (r=q*86400+h*3600+mi*60+c+(zh*3600+zm*60)):=hid (by rw[<-u.out,if_neg hz]);go_wp2;go_ret;rw[p.out,n.out];exact⟨rfl,a.out.2⟩
def prngB (sh:Int) (y m d h mi c zh zm:Nat):Bool:=(decide (sh=2) || Cal.vld y m d) && decide (h<=23) && decide (mi<=59) && decide (c<=59) && decide (zh<=23) && decide (zm<=59)
theorem ze8 (sh:Int) (y m d h mi c zh zm:Nat) (nanos z:Int) (w:World):
 Calls prog 93 #[.agg #[.int .i64 sh,.int .i64 (y:Int),.int .i64 (m:Int),.int .i64 (d:Int),.int .i64 (h:Int),.int .i64 (mi:Int),.int .i64 (c:Int),.int .i64 (zh:Int),.int .i64 (zm:Int),.int .i64 nanos,.int .u8 z]] w fun e w'=>e=.returned (.bool (prngB sh y m d h mi c zh zm))/\Below w.heap.size w w':=by
 have V:=hid (fun q W=>zk2 (y:Int) (m:Int) (d:Int) q W);have X:=hid (fun q W=>zvx (y:Int) (m:Int) (d:Int) q W);obtain⟨r,R⟩:=ex (prngB sh y m d h mi c zh zm)
 have B:=hid R;rw[R];clear R;go_enter func93,ntmps93;go_upto_region 1 with fail;obtain⟨g,t⟩:=ex w.heap.size
 obtain⟨I,C⟩:∃I,I=w.alloc (.cells #[.int .i64 sh,.int .i64 (y:Int),.int .i64 (m:Int),.int .i64 (d:Int),.int .i64 (h:Int),.int .i64 (mi:Int),.int .i64 (c:Int),.int .i64 (zh:Int),.int .i64 (zm:Int),.int .i64 nanos,.int .u8 z] 135):=⟨_,rfl⟩
 have b:Hid (Blk I g 135 #[.int .i64 sh,.int .i64 (y:Int),.int .i64 (m:Int),.int .i64 (d:Int),.int .i64 (h:Int),.int .i64 (mi:Int),.int .i64 (c:Int),.int .i64 (zh:Int),.int .i64 (zm:Int),.int .i64 nanos,.int .u8 z]/\Below g w I):=hid (by rw[C,<-t];exact⟨Blk.new _ _ _,(Below.refl _ _).alloc (Nat.le_refl _) _⟩);have l:=hid t;(try rw[<-C]);(try rw[t]);clear C t;obtain⟨M,o⟩:=ex (decide (sh=2))
 have K:=hid o;go_cut [10] (fun s10 N=>s10=.bool (!M)/\N=I)
 case first=>
  have q0:I.cell? ⟨g,0,none⟩=some (.int .i64 sh):=b.out.1.cell 0;have hbe:(sh != 2)=!M:=by rw[<-o,bne];congr 1
  have hbe2:(sh==2)=M:=by rw[<-o];rfl
  clear o;go_wp2;go_meet
  first|exact⟨rfl,rfl⟩|exact⟨by simp,rfl⟩
 case rest=>
 obtain⟨rfl,rfl⟩:=hcut;refine(‹∀(a:Act) (w_1:World),Code.wp prog _ _ a w_1->_›) _ _ ?_;go_cut [] (fun N=>Hid ((sh=2\/Cal.vld y m d=true)/\Blk N g 135 #[.int .i64 sh,.int .i64 (y:Int),.int .i64 (m:Int),.int .i64 (d:Int),.int .i64 (h:Int),.int .i64 (mi:Int),.int .i64 (c:Int),.int .i64 (zh:Int),.int .i64 (zm:Int),.int .i64 nanos,.int .u8 z]/\Below g w N))
 case first=>
  have U:wc.cell? ⟨g,1,none⟩=some (.int .i64 (y:Int)):=b.out.1.cell 1;have S:wc.cell? ⟨g,2,none⟩=some (.int .i64 (m:Int)):=b.out.1.cell 2;have T:wc.cell? ⟨g,3,none⟩=some (.int .i64 (d:Int)):=b.out.1.cell 3;clear o;cases M with
  |true=>
   have O:Hid (sh=2):=hid (of_decide_eq_true K.out);go_wp2;go_meet;exact hid ⟨.inl O.out,b.out.1,b.out.2⟩
  |false=>
   have O:Hid (¬sh=2):=hid (of_decide_eq_false K.out);cases q:Cal.vld y m d with
   |true=>
    have x:=hid q;have Q:=hid (V.out q);clear q;go_wp2_with fail;refine(Q.out _).mono ?_;rintro e L ⟨rfl,j⟩;have u:Hid (Blk L g 135 #[.int .i64 sh,.int .i64 (y:Int),.int .i64 (m:Int),.int .i64 (d:Int),.int .i64 (h:Int),.int .i64 (mi:Int),.int .i64 (c:Int),.int .i64 (zh:Int),.int .i64 (zm:Int),.int .i64 nanos,.int .u8 z]/\Below g w L):=hid ⟨b.out.1.below j b.out.1.lt,b.out.2.trans (j.mono (Nat.le_of_lt b.out.1.lt))⟩;clear j U S T;go_wp2;go_meet;exact hid ⟨.inr x.out,u.out.1,u.out.2⟩
   |false=>
    have n:Hid (r=false):=hid (by rw[<-B.out];unfold prngB;rw[q,decide_eq_false O.out];rfl);have Q:=hid (X.out q);clear q;go_wp2_with fail;refine(Q.out _).mono ?_;rintro e L ⟨rfl,j⟩;have u:Hid (Blk L g 135 #[.int .i64 sh,.int .i64 (y:Int),.int .i64 (m:Int),.int .i64 (d:Int),.int .i64 (h:Int),.int .i64 (mi:Int),.int .i64 (c:Int),.int .i64 (zh:Int),.int .i64 (zm:Int),.int .i64 nanos,.int .u8 z]/\Below g w L):=hid ⟨b.out.1.below j b.out.1.lt,b.out.2.trans (j.mono (Nat.le_of_lt b.out.1.lt))⟩;clear j U S T;go_wp2;go_ret;rw[n.out,l.out];exact⟨rfl,u.out.2⟩
 case rest=>
 have v:=hcut;clear hcut b o;refine(‹∀(a:Act) (w_1:World),Code.wp prog _ _ a w_1->_›) _ _ ?_;have i0:∀w,(Instr.index 173 (.agg #[.int .i64 23,.int .i64 59,.int .i64 59,.int .i64 23,.int .i64 59]) (.int .i64 0)).run prog w=.ok (.int .i64 23) w:=fun _=>by kernel_rfl
 have i1:∀w,(Instr.index 173 (.agg #[.int .i64 23,.int .i64 59,.int .i64 59,.int .i64 23,.int .i64 59]) (.int .i64 1)).run prog w=.ok (.int .i64 59) w:=fun _=>by kernel_rfl
 have i2:∀w,(Instr.index 173 (.agg #[.int .i64 23,.int .i64 59,.int .i64 59,.int .i64 23,.int .i64 59]) (.int .i64 2)).run prog w=.ok (.int .i64 59) w:=fun _=>by kernel_rfl
 have i3:∀w,(Instr.index 173 (.agg #[.int .i64 23,.int .i64 59,.int .i64 59,.int .i64 23,.int .i64 59]) (.int .i64 3)).run prog w=.ok (.int .i64 23) w:=fun _=>by kernel_rfl
 have i4:∀w,(Instr.index 173 (.agg #[.int .i64 23,.int .i64 59,.int .i64 59,.int .i64 23,.int .i64 59]) (.int .i64 4)).run prog w=.ok (.int .i64 59) w:=fun _=>by kernel_rfl
 go_upto_block 0 with fail;obtain⟨A,D⟩:=ex (wc.alloc (.cells #[.int .i64 23,.int .i64 59,.int .i64 59,.int .i64 23,.int .i64 59] 173))
 have f:Hid (Blk A g 135 #[.int .i64 sh,.int .i64 (y:Int),.int .i64 (m:Int),.int .i64 (d:Int),.int .i64 (h:Int),.int .i64 (mi:Int),.int .i64 (c:Int),.int .i64 (zh:Int),.int .i64 (zm:Int),.int .i64 nanos,.int .u8 z]/\Below g w A):=hid (by rw[<-D];exact⟨v.out.2.1.alloc _,v.out.2.2.alloc (Nat.le_of_lt v.out.2.1.lt) _⟩);(try rw[D]);clear D;have q4:A.cell? ⟨g,4,none⟩=some (.int .i64 (h:Int)):=f.out.1.cell 4;have q5:A.cell? ⟨g,5,none⟩=some (.int .i64 (mi:Int)):=f.out.1.cell 5;have q6:A.cell? ⟨g,6,none⟩=some (.int .i64 (c:Int)):=f.out.1.cell 6;have q7:A.cell? ⟨g,7,none⟩=some (.int .i64 (zh:Int)):=f.out.1.cell 7;have q8:A.cell? ⟨g,8,none⟩=some (.int .i64 (zm:Int)):=f.out.1.cell 8;go_wp2_with fail;go_loop [28] (fun s28=>∃k:Int,0<=k/\k<=5/\s28=.int .i64 k/\Hid ((0<k->h<=23)/\(1<k->mi<=59)/\(2<k->c<=59)/\(3<k->zh<=23)/\(4<k->zm<=59))) (fun s28=>5-(intOf s28).toNat)
 case atStart=>exact⟨0,by omega,by omega,rfl,hid ⟨by omega,by omega,by omega,by omega,by omega⟩⟩
 case round=>
  obtain⟨k,hk0,hk5,rfl,x⟩:=hrel;have P:k=0\/k=1\/k=2\/k=3\/k=4\/k=5:=by omega
  rcases P with rfl|rfl|rfl|rfl|rfl|rfl
  ·by_cases hx:h<=23
   ·have i:¬(23:Int)<(h:Int):=by omega
    have s:=hid hx;clear hx;go_wp2;go_round
    case rel=>exact⟨1,by omega,by omega,rfl,hid (by obtain⟨E,F,G,J,H⟩:=x.out;have:=s.out;exact⟨by omega,by omega,by omega,by omega,by omega⟩)⟩
    case measure=>simp[intOf]
   ·have i:(23:Int)<(h:Int):=by omega
    have n:Hid (r=false):=hid (by rw[<-B.out];unfold prngB;rw[decide_eq_false (p:=h<=23) hx];simp);clear hx;go_wp2;go_ret;rw[n.out,l.out];exact⟨rfl,f.out.2⟩
  ·by_cases hx:mi<=59
   ·have i:¬(59:Int)<(mi:Int):=by omega
    have s:=hid hx;clear hx;go_wp2;go_round
    case rel=>exact⟨2,by omega,by omega,rfl,hid (by obtain⟨E,F,G,J,H⟩:=x.out;have:=s.out;exact⟨by omega,by omega,by omega,by omega,by omega⟩)⟩
    case measure=>simp[intOf]
   ·have i:(59:Int)<(mi:Int):=by omega
    have n:Hid (r=false):=hid (by rw[<-B.out];unfold prngB;rw[decide_eq_false (p:=mi<=59) hx];simp);clear hx;go_wp2;go_ret;rw[n.out,l.out];exact⟨rfl,f.out.2⟩
  ·by_cases hx:c<=59
   ·have i:¬(59:Int)<(c:Int):=by omega
    have s:=hid hx;clear hx;go_wp2;go_round
    case rel=>exact⟨3,by omega,by omega,rfl,hid (by obtain⟨E,F,G,J,H⟩:=x.out;have:=s.out;exact⟨by omega,by omega,by omega,by omega,by omega⟩)⟩
    case measure=>simp[intOf]
   ·have i:(59:Int)<(c:Int):=by omega
    have n:Hid (r=false):=hid (by rw[<-B.out];unfold prngB;rw[decide_eq_false (p:=c<=59) hx];simp);clear hx;go_wp2;go_ret;rw[n.out,l.out];exact⟨rfl,f.out.2⟩
  ·by_cases hx:zh<=23
   ·have i:¬(23:Int)<(zh:Int):=by omega
    have s:=hid hx;clear hx;go_wp2;go_round
    case rel=>exact⟨4,by omega,by omega,rfl,hid (by obtain⟨E,F,G,J,H⟩:=x.out;have:=s.out;exact⟨by omega,by omega,by omega,by omega,by omega⟩)⟩
    case measure=>simp[intOf]
   ·have i:(23:Int)<(zh:Int):=by omega
    have n:Hid (r=false):=hid (by rw[<-B.out];unfold prngB;rw[decide_eq_false (p:=zh<=23) hx];simp);clear hx;go_wp2;go_ret;rw[n.out,l.out];exact⟨rfl,f.out.2⟩
  ·by_cases hx:zm<=59
   ·have i:¬(59:Int)<(zm:Int):=by omega
    have s:=hid hx;clear hx;go_wp2;go_round
    case rel=>exact⟨5,by omega,by omega,rfl,hid (by obtain⟨E,F,G,J,H⟩:=x.out;have:=s.out;exact⟨by omega,by omega,by omega,by omega,by omega⟩)⟩
    case measure=>simp[intOf]
   ·have i:(59:Int)<(zm:Int):=by omega
    have n:Hid (r=false):=hid (by rw[<-B.out];unfold prngB;rw[decide_eq_false (p:=zm<=59) hx];simp);clear hx;go_wp2;go_ret;rw[n.out,l.out];exact⟨rfl,f.out.2⟩
  ·have n:Hid (r=true):=hid (by
    obtain⟨E,F,G,J,H⟩:=x.out;rw[<-B.out];unfold prngB;rw[decide_eq_true (E (by omega)),decide_eq_true (F (by omega)),decide_eq_true (G (by omega)),decide_eq_true (J (by omega)),decide_eq_true (H (by omega))];rcases v.out.1 with h|h<;>simp[h])
   go_wp2;go_ret;rw[n.out,l.out];exact⟨rfl,f.out.2⟩
end Go.Proofs.YtoigpackhninoaaGreatDoor

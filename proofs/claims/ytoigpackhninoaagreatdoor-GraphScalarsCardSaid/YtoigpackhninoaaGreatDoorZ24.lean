/- Walks: a moment's seconds, its ranges. Walks: the reference's Of of moments. -/
import Derived.Test.YtoigpackhninoaaGreatDoorZ23
import Derived.Test.YtoigpackhninoaaGreatDoorZ16
import Derived.RegionTactic
import Derived.Test.YtoigpackhninoaaGreatDoorZ19
import Derived.Test.YtoigpackhninoaaGreatDoorGrInsR4T
namespace Go.Proofs.YtoigpackhninoaaGreatDoor
set_option maxRecDepth 100000
set_option maxHeartbeats 16000000
open Go.RowKit
theorem pseconds_any (sh y m d h mi c zh zm nanos z:Int) (hv:Cal.vld y m d=true) (h0:0<=h) (h1:h<=1000) (h2:0<=mi) (h3:mi<=1000) (h4:0<=c) (h5:c<=1000) (h6:0<=zh) (h7:zh<=1000) (h8:0<=zm) (h9:zm<=1000) (w:World):
 Calls Tryz.prog 95 #[.agg #[.int .i64 sh,.int .i64 y,.int .i64 m,.int .i64 d,.int .i64 h,.int .i64 mi,.int .i64 c,.int .i64 zh,.int .i64 zm,.int .i64 nanos,.int .u8 z]] w fun e w'=>e=.returned (.int .i64 (if z=43 then Cal.num y m d*86400+h*3600+mi*60+c-(zh*3600+zm*60)else Cal.num y m d*86400+h*3600+mi*60+c+(zh*3600+zm*60)))/\Below w.heap.size w w':=by
 have HD:=Lib.hid (fun W=>days_yes y m d hv W);have hb:=Cal.num_bd hv;obtain⟨q,hq⟩:∃q,Cal.num y m d=q:=⟨_,rfl⟩
 rw[hq]at HD hb ⊢;obtain⟨hb0,hb1⟩:=hb;clear hq hv;obtain⟨r,hr⟩:∃r,(if z=43 then q*86400+h*3600+mi*60+c-(zh*3600+zm*60)else q*86400+h*3600+mi*60+c+(zh*3600+zm*60))=r:=⟨_,rfl⟩
 have HR:=Lib.hid hr;rw[hr];clear hr;go_enter Tryz.func95,Tryz.ntmps95;go_upto_region 1 with fail;obtain⟨gb,hgb⟩:∃gb,w.heap.size=gb:=⟨_,rfl⟩
 obtain⟨w0,hw0⟩:∃w0,w0=w.alloc (.cells #[.int .i64 sh,.int .i64 y,.int .i64 m,.int .i64 d,.int .i64 h,.int .i64 mi,.int .i64 c,.int .i64 zh,.int .i64 zm,.int .i64 nanos,.int .u8 z] 135):=⟨_,rfl⟩
 have HB0:Hid (Blk w0 gb 135 #[.int .i64 sh,.int .i64 y,.int .i64 m,.int .i64 d,.int .i64 h,.int .i64 mi,.int .i64 c,.int .i64 zh,.int .i64 zm,.int .i64 nanos,.int .u8 z]/\Below gb w w0):=Lib.hid (by rw[hw0,<-hgb];exact⟨Blk.new _ _ _,(Below.refl _ _).alloc (Nat.le_refl _) _⟩);have HGB:=Lib.hid hgb;(try rw[<-hw0]);(try rw[hgb]);clear hw0 hgb;have q1:w0.cell? ⟨gb,1,none⟩=some (.int .i64 y):=HB0.out.1.cell 1;have q2:w0.cell? ⟨gb,2,none⟩=some (.int .i64 m):=HB0.out.1.cell 2;have q3:w0.cell? ⟨gb,3,none⟩=some (.int .i64 d):=HB0.out.1.cell 3;go_wp2_with fail;refine(HD.out _).mono ?_;rintro e w1 ⟨rfl,hbb⟩;have HB1:Hid (Blk w1 gb 135 #[.int .i64 sh,.int .i64 y,.int .i64 m,.int .i64 d,.int .i64 h,.int .i64 mi,.int .i64 c,.int .i64 zh,.int .i64 zm,.int .i64 nanos,.int .u8 z]/\Below gb w w1):=Lib.hid ⟨HB0.out.1.below hbb HB0.out.1.lt,HB0.out.2.trans (hbb.mono (Nat.le_of_lt HB0.out.1.lt))⟩;clear hbb q1 q2 q3;have q4:w1.cell? ⟨gb,4,none⟩=some (.int .i64 h):=HB1.out.1.cell 4;have q5:w1.cell? ⟨gb,5,none⟩=some (.int .i64 mi):=HB1.out.1.cell 5;have q6:w1.cell? ⟨gb,6,none⟩=some (.int .i64 c):=HB1.out.1.cell 6;have q7:w1.cell? ⟨gb,7,none⟩=some (.int .i64 zh):=HB1.out.1.cell 7;have q8:w1.cell? ⟨gb,8,none⟩=some (.int .i64 zm):=HB1.out.1.cell 8;have q10:w1.cell? ⟨gb,10,none⟩=some (.int .u8 z):=HB1.out.1.cell 10;by_cases hz:z=43
 ·have hzb:(z==43)=true:=by simpa using hz
  have HF:Hid (r=q*86400+h*3600+mi*60+c-(zh*3600+zm*60)):=Lib.hid (by rw[<-HR.out,if_pos hz]);clear hz;go_wp2_with fail;go_ret;rw[HF.out,HGB.out];exact⟨rfl,HB1.out.2⟩
 ·have hzb:(z==43)=false:=by simpa using hz
  have HF:Hid (r=q*86400+h*3600+mi*60+c+(zh*3600+zm*60)):=Lib.hid (by rw[<-HR.out,if_neg hz]);go_wp2_with fail;go_ret;rw[HF.out,HGB.out];exact⟨rfl,HB1.out.2⟩
def prngB (sh:Int) (y m d h mi c zh zm:Nat):Bool:=(decide (sh=2) || Cal.vld y m d) && decide (h<=23) && decide (mi<=59) && decide (c<=59) && decide (zh<=23) && decide (zm<=59)
theorem pranges_any (sh:Int) (y m d h mi c zh zm:Nat) (nanos z:Int) (w:World):
 Calls Tryz.prog 93 #[.agg #[.int .i64 sh,.int .i64 (y:Int),.int .i64 (m:Int),.int .i64 (d:Int),.int .i64 (h:Int),.int .i64 (mi:Int),.int .i64 (c:Int),.int .i64 (zh:Int),.int .i64 (zm:Int),.int .i64 nanos,.int .u8 z]] w fun e w'=>e=.returned (.bool (prngB sh y m d h mi c zh zm))/\Below w.heap.size w w':=by
 have HY:=Lib.hid (fun hv W=>days_yes (y:Int) (m:Int) (d:Int) hv W);have HN:=Lib.hid (fun hv W=>days_no (y:Int) (m:Int) (d:Int) hv W);obtain⟨r,hr⟩:∃r,prngB sh y m d h mi c zh zm=r:=⟨_,rfl⟩
 have HR:=Lib.hid hr;rw[hr];clear hr;go_enter Tryz.func93,Tryz.ntmps93;go_upto_region 1 with fail;obtain⟨gb,hgb⟩:∃gb,w.heap.size=gb:=⟨_,rfl⟩
 obtain⟨w0,hw0⟩:∃w0,w0=w.alloc (.cells #[.int .i64 sh,.int .i64 (y:Int),.int .i64 (m:Int),.int .i64 (d:Int),.int .i64 (h:Int),.int .i64 (mi:Int),.int .i64 (c:Int),.int .i64 (zh:Int),.int .i64 (zm:Int),.int .i64 nanos,.int .u8 z] 135):=⟨_,rfl⟩
 have HB0:Hid (Blk w0 gb 135 #[.int .i64 sh,.int .i64 (y:Int),.int .i64 (m:Int),.int .i64 (d:Int),.int .i64 (h:Int),.int .i64 (mi:Int),.int .i64 (c:Int),.int .i64 (zh:Int),.int .i64 (zm:Int),.int .i64 nanos,.int .u8 z]/\Below gb w w0):=Lib.hid (by rw[hw0,<-hgb];exact⟨Blk.new _ _ _,(Below.refl _ _).alloc (Nat.le_refl _) _⟩);have HGB:=Lib.hid hgb;(try rw[<-hw0]);(try rw[hgb]);clear hw0 hgb;obtain⟨q0,q1,q2,q3,q4,q5,q6,q7,q8,q9,q10⟩:=cells11 HB0.out.1;clear q0 q1 q2 q3 q4 q5 q6 q7 q8 q9 q10;obtain⟨st,hst⟩:∃st,decide (sh=2)=st:=⟨_,rfl⟩
 have HST:=Lib.hid hst;go_cut [10] (fun s10 wx=>s10=.bool (!st)/\wx=w0)
 case first=>
  have q0:w0.cell? ⟨gb,0,none⟩=some (.int .i64 sh):=HB0.out.1.cell 0;have hbe:(sh != 2)=!st:=by rw[<-hst,bne];congr 1
  have hbe2:(sh==2)=st:=by rw[<-hst];rfl
  clear hst;go_wp2_with fail;go_meet
  first|exact⟨rfl,rfl⟩|exact⟨by simp,rfl⟩
 case rest=>
 obtain⟨rfl,rfl⟩:=hcut;refine(‹∀(a:Act) (w_1:World),Code.wp Tryz.prog _ _ a w_1->_›) _ _ ?_;go_cut [] (fun wx=>Hid ((sh=2\/Cal.vld y m d=true)/\Blk wx gb 135 #[.int .i64 sh,.int .i64 (y:Int),.int .i64 (m:Int),.int .i64 (d:Int),.int .i64 (h:Int),.int .i64 (mi:Int),.int .i64 (c:Int),.int .i64 (zh:Int),.int .i64 (zm:Int),.int .i64 nanos,.int .u8 z]/\Below gb w wx))
 case first=>
  have q1:wc.cell? ⟨gb,1,none⟩=some (.int .i64 (y:Int)):=HB0.out.1.cell 1;have q2:wc.cell? ⟨gb,2,none⟩=some (.int .i64 (m:Int)):=HB0.out.1.cell 2;have q3:wc.cell? ⟨gb,3,none⟩=some (.int .i64 (d:Int)):=HB0.out.1.cell 3;clear hst;cases st with
  |true=>
   have HS:Hid (sh=2):=Lib.hid (of_decide_eq_true HST.out);go_wp2_with fail;go_meet;exact Lib.hid ⟨.inl HS.out,HB0.out.1,HB0.out.2⟩
  |false=>
   have HS:Hid (¬sh=2):=Lib.hid (of_decide_eq_false HST.out);cases hv:Cal.vld y m d with
   |true=>
    have HV:=Lib.hid hv;have HC:=Lib.hid (HY.out hv);clear hv;go_wp2_with fail;refine(HC.out _).mono ?_;rintro e w1 ⟨rfl,hbb⟩;have HB1:Hid (Blk w1 gb 135 #[.int .i64 sh,.int .i64 (y:Int),.int .i64 (m:Int),.int .i64 (d:Int),.int .i64 (h:Int),.int .i64 (mi:Int),.int .i64 (c:Int),.int .i64 (zh:Int),.int .i64 (zm:Int),.int .i64 nanos,.int .u8 z]/\Below gb w w1):=Lib.hid ⟨HB0.out.1.below hbb HB0.out.1.lt,HB0.out.2.trans (hbb.mono (Nat.le_of_lt HB0.out.1.lt))⟩;clear hbb q1 q2 q3;go_wp2_with fail;go_meet;exact Lib.hid ⟨.inr HV.out,HB1.out.1,HB1.out.2⟩
   |false=>
    have HF:Hid (r=false):=Lib.hid (by rw[<-HR.out];unfold prngB;rw[hv,decide_eq_false HS.out];rfl);have HC:=Lib.hid (HN.out hv);clear hv;go_wp2_with fail;refine(HC.out _).mono ?_;rintro e w1 ⟨rfl,hbb⟩;have HB1:Hid (Blk w1 gb 135 #[.int .i64 sh,.int .i64 (y:Int),.int .i64 (m:Int),.int .i64 (d:Int),.int .i64 (h:Int),.int .i64 (mi:Int),.int .i64 (c:Int),.int .i64 (zh:Int),.int .i64 (zm:Int),.int .i64 nanos,.int .u8 z]/\Below gb w w1):=Lib.hid ⟨HB0.out.1.below hbb HB0.out.1.lt,HB0.out.2.trans (hbb.mono (Nat.le_of_lt HB0.out.1.lt))⟩;clear hbb q1 q2 q3;go_wp2_with fail;go_ret;rw[HF.out,HGB.out];exact⟨rfl,HB1.out.2⟩
 case rest=>
 have HB2:=hcut;clear hcut HB0 hst;refine(‹∀(a:Act) (w_1:World),Code.wp Tryz.prog _ _ a w_1->_›) _ _ ?_;have i0:∀w,(Instr.index 173 (.agg #[.int .i64 23,.int .i64 59,.int .i64 59,.int .i64 23,.int .i64 59]) (.int .i64 0)).run Tryz.prog w=.ok (.int .i64 23) w:=fun _=>by kernel_rfl
 have i1:∀w,(Instr.index 173 (.agg #[.int .i64 23,.int .i64 59,.int .i64 59,.int .i64 23,.int .i64 59]) (.int .i64 1)).run Tryz.prog w=.ok (.int .i64 59) w:=fun _=>by kernel_rfl
 have i2:∀w,(Instr.index 173 (.agg #[.int .i64 23,.int .i64 59,.int .i64 59,.int .i64 23,.int .i64 59]) (.int .i64 2)).run Tryz.prog w=.ok (.int .i64 59) w:=fun _=>by kernel_rfl
 have i3:∀w,(Instr.index 173 (.agg #[.int .i64 23,.int .i64 59,.int .i64 59,.int .i64 23,.int .i64 59]) (.int .i64 3)).run Tryz.prog w=.ok (.int .i64 23) w:=fun _=>by kernel_rfl
 have i4:∀w,(Instr.index 173 (.agg #[.int .i64 23,.int .i64 59,.int .i64 59,.int .i64 23,.int .i64 59]) (.int .i64 4)).run Tryz.prog w=.ok (.int .i64 59) w:=fun _=>by kernel_rfl
 go_upto_block 0 with fail;obtain⟨w3,hw3⟩:∃w3,wc.alloc (.cells #[.int .i64 23,.int .i64 59,.int .i64 59,.int .i64 23,.int .i64 59] 173)=w3:=⟨_,rfl⟩
 have HB3:Hid (Blk w3 gb 135 #[.int .i64 sh,.int .i64 (y:Int),.int .i64 (m:Int),.int .i64 (d:Int),.int .i64 (h:Int),.int .i64 (mi:Int),.int .i64 (c:Int),.int .i64 (zh:Int),.int .i64 (zm:Int),.int .i64 nanos,.int .u8 z]/\Below gb w w3):=Lib.hid (by rw[<-hw3];exact⟨HB2.out.2.1.alloc _,HB2.out.2.2.alloc (Nat.le_of_lt HB2.out.2.1.lt) _⟩);(try rw[hw3]);clear hw3;have q4:w3.cell? ⟨gb,4,none⟩=some (.int .i64 (h:Int)):=HB3.out.1.cell 4;have q5:w3.cell? ⟨gb,5,none⟩=some (.int .i64 (mi:Int)):=HB3.out.1.cell 5;have q6:w3.cell? ⟨gb,6,none⟩=some (.int .i64 (c:Int)):=HB3.out.1.cell 6;have q7:w3.cell? ⟨gb,7,none⟩=some (.int .i64 (zh:Int)):=HB3.out.1.cell 7;have q8:w3.cell? ⟨gb,8,none⟩=some (.int .i64 (zm:Int)):=HB3.out.1.cell 8;go_wp2_with fail;go_loop [28] (fun s28=>∃k:Int,0<=k/\k<=5/\s28=.int .i64 k/\Hid ((0<k->h<=23)/\(1<k->mi<=59)/\(2<k->c<=59)/\(3<k->zh<=23)/\(4<k->zm<=59))) (fun s28=>5-(intOf s28).toNat)
 case atStart=>exact⟨0,by omega,by omega,rfl,Lib.hid ⟨by omega,by omega,by omega,by omega,by omega⟩⟩
 case round=>
  obtain⟨k,hk0,hk5,rfl,HV⟩:=hrel;have hkc:k=0\/k=1\/k=2\/k=3\/k=4\/k=5:=by omega
  rcases hkc with rfl|rfl|rfl|rfl|rfl|rfl
  ·by_cases hx:h<=23
   ·have hxI:¬(23:Int)<(h:Int):=by omega
    have HX:=Lib.hid hx;clear hx;go_wp2_with fail;go_round
    case rel=>exact⟨1,by omega,by omega,rfl,Lib.hid (by obtain⟨a0,a1,a2,a3,a4⟩:=HV.out;have:=HX.out;exact⟨by omega,by omega,by omega,by omega,by omega⟩)⟩
    case measure=>simp[intOf]
   ·have hxI:(23:Int)<(h:Int):=by omega
    have HF:Hid (r=false):=Lib.hid (by rw[<-HR.out];unfold prngB;rw[decide_eq_false (p:=h<=23) hx];simp);clear hx;go_wp2_with fail;go_ret;rw[HF.out,HGB.out];exact⟨rfl,HB3.out.2⟩
  ·by_cases hx:mi<=59
   ·have hxI:¬(59:Int)<(mi:Int):=by omega
    have HX:=Lib.hid hx;clear hx;go_wp2_with fail;go_round
    case rel=>exact⟨2,by omega,by omega,rfl,Lib.hid (by obtain⟨a0,a1,a2,a3,a4⟩:=HV.out;have:=HX.out;exact⟨by omega,by omega,by omega,by omega,by omega⟩)⟩
    case measure=>simp[intOf]
   ·have hxI:(59:Int)<(mi:Int):=by omega
    have HF:Hid (r=false):=Lib.hid (by rw[<-HR.out];unfold prngB;rw[decide_eq_false (p:=mi<=59) hx];simp);clear hx;go_wp2_with fail;go_ret;rw[HF.out,HGB.out];exact⟨rfl,HB3.out.2⟩
  ·by_cases hx:c<=59
   ·have hxI:¬(59:Int)<(c:Int):=by omega
    have HX:=Lib.hid hx;clear hx;go_wp2_with fail;go_round
    case rel=>exact⟨3,by omega,by omega,rfl,Lib.hid (by obtain⟨a0,a1,a2,a3,a4⟩:=HV.out;have:=HX.out;exact⟨by omega,by omega,by omega,by omega,by omega⟩)⟩
    case measure=>simp[intOf]
   ·have hxI:(59:Int)<(c:Int):=by omega
    have HF:Hid (r=false):=Lib.hid (by rw[<-HR.out];unfold prngB;rw[decide_eq_false (p:=c<=59) hx];simp);clear hx;go_wp2_with fail;go_ret;rw[HF.out,HGB.out];exact⟨rfl,HB3.out.2⟩
  ·by_cases hx:zh<=23
   ·have hxI:¬(23:Int)<(zh:Int):=by omega
    have HX:=Lib.hid hx;clear hx;go_wp2_with fail;go_round
    case rel=>exact⟨4,by omega,by omega,rfl,Lib.hid (by obtain⟨a0,a1,a2,a3,a4⟩:=HV.out;have:=HX.out;exact⟨by omega,by omega,by omega,by omega,by omega⟩)⟩
    case measure=>simp[intOf]
   ·have hxI:(23:Int)<(zh:Int):=by omega
    have HF:Hid (r=false):=Lib.hid (by rw[<-HR.out];unfold prngB;rw[decide_eq_false (p:=zh<=23) hx];simp);clear hx;go_wp2_with fail;go_ret;rw[HF.out,HGB.out];exact⟨rfl,HB3.out.2⟩
  ·by_cases hx:zm<=59
   ·have hxI:¬(59:Int)<(zm:Int):=by omega
    have HX:=Lib.hid hx;clear hx;go_wp2_with fail;go_round
    case rel=>exact⟨5,by omega,by omega,rfl,Lib.hid (by obtain⟨a0,a1,a2,a3,a4⟩:=HV.out;have:=HX.out;exact⟨by omega,by omega,by omega,by omega,by omega⟩)⟩
    case measure=>simp[intOf]
   ·have hxI:(59:Int)<(zm:Int):=by omega
    have HF:Hid (r=false):=Lib.hid (by rw[<-HR.out];unfold prngB;rw[decide_eq_false (p:=zm<=59) hx];simp);clear hx;go_wp2_with fail;go_ret;rw[HF.out,HGB.out];exact⟨rfl,HB3.out.2⟩
  ·have HF:Hid (r=true):=Lib.hid (by
    obtain⟨a0,a1,a2,a3,a4⟩:=HV.out;rw[<-HR.out];unfold prngB;rw[decide_eq_true (a0 (by omega)),decide_eq_true (a1 (by omega)),decide_eq_true (a2 (by omega)),decide_eq_true (a3 (by omega)),decide_eq_true (a4 (by omega))];rcases HB2.out.1 with h|h<;>simp[h])
   go_wp2_with fail;go_ret;rw[HF.out,HGB.out];exact⟨rfl,HB3.out.2⟩
end Go.Proofs.YtoigpackhninoaaGreatDoor
namespace Go.Proofs.YtoigpackhninoaaGreatDoor
set_option maxRecDepth 100000
set_option maxHeartbeats 16000000
open Go.RowKit
def OfPost (Z nanos:Int) (w:World) (e:Ending) (w':World):Prop:=∃y m d:Int,Cal.vld y m d=true/\Cal.num y m d=Z /86400-719528/\e=.returned (.agg #[.bool true,.bool true,.bool true,.int .i64 y,.int .i64 m,.int .i64 d,.int .i64 (Z%86400 /3600),.int .i64 (Z%86400 /60%60),.int .i64 (Z%86400%60),.int .i64 nanos,.int .i64 0,.bool false])/\Below w.heap.size w w'
theorem rof_any (S Z nanos:Int) (hz:S- -62167219200=Z) (h0:0<=Z) (h1:Z<=315569519999) (w:World):
 Calls Tryz.prog 133 #[.int .i64 S,.int .i64 nanos] w (OfPost Z nanos w):=by
 have hS0:-62167219200<=S:=by omega
 have hS1:S<=253402300799:=by omega
 obtain⟨N,hN⟩:∃N,Z /86400=N:=⟨_,rfl⟩
 obtain⟨R,hR⟩:∃R,Z%86400=R:=⟨_,rfl⟩
 have hN0:0<=N:=by omega
 have hN1:N<=3652424:=by omega
 have hR0:0<=R:=by omega
 have hR1:R<=86399:=by omega
 have HNR:Hid (Z /86400=N/\Z%86400=R):=Lib.hid ⟨hN,hR⟩;have HD:Hid (∀y:Int,0<=y->y<=10000->∀W,Calls Tryz.prog 162 #[.int .i64 y,.int .i64 1,.int .i64 1] W fun e w'=>e=.returned (.int .i64 (Cal.fst y-719528))/\W=w'):=Lib.hid (fun y a b W=>by
  have:=rdays_any y 1 1 a (by omega) (by omega) (by omega) (by omega) (by omega) W;rwa[show Cal.num y 1 1=Cal.fst y-719528 from by unfold Cal.num;rw[Cal.cum_one];omega]at this)
 go_enter Tryz.func133,Tryz.ntmps133;go_upto_region 5 with fail;obtain⟨gb,hgb⟩:∃gb,w.heap.size=gb:=⟨_,rfl⟩
 obtain⟨w5,hw5⟩:∃w5,w5=(w.alloc (.cells #[.bool false,.bool false,.bool false,.int .i64 0,.int .i64 0,.int .i64 0,.int .i64 0,.int .i64 0,.int .i64 0,.int .i64 0,.int .i64 0,.bool false] 111)).alloc (.cells #[.bool true,.bool true,.bool true,.int .i64 0,.int .i64 0,.int .i64 0,.int .i64 (R /3600),.int .i64 (R /60%60),.int .i64 (R%60),.int .i64 nanos,.int .i64 0,.bool false] 111):=⟨_,rfl⟩
 have HB5:Hid (Blk w5 (gb+1) 111 (T12 true true true 0 0 0 (R /3600) (R /60%60) (R%60) nanos 0 false)/\Blk w5 gb 111 (T12 false false false 0 0 0 0 0 0 0 0 false)/\Below gb w w5):=Lib.hid (by
  rw[hw5,<-hgb];refine⟨?_,(Blk.new _ _ _).alloc _,below_two _ _⟩;have:=Blk.new (w.alloc (.cells #[.bool false,.bool false,.bool false,.int .i64 0,.int .i64 0,.int .i64 0,.int .i64 0,.int .i64 0,.int .i64 0,.int .i64 0,.int .i64 0,.bool false] 111)) 111 (T12 true true true 0 0 0 (R /3600) (R /60%60) (R%60) nanos 0 false);rwa[World.size_alloc]at this)
 have HGB:=Lib.hid hgb;(try rw[<-hw5]);(try rw[hgb]);rw[hN,hR];clear hw5 hgb hN hR hz h0 h1;have q3:w5.cell? ⟨gb+1,3,none⟩=some (.int .i64 0):=HB5.out.1.cell 3;have qf:∀j,w5.frozen? ⟨gb+1,j,none⟩=false:=HB5.out.1.frozen;have HG0:=Lib.hid (Cal.fst_guess N hN0);go_wp2_with fail;clear q3 qf;go_loopw [35] (fun _ wr=>∃y:Int,0<=y/\y<=9999/\Hid (Cal.fst y<=N/\Blk wr (gb+1) 111 (T12 true true true y 0 0 (R /3600) (R /60%60) (R%60) nanos 0 false)/\Blk wr gb 111 (T12 false false false 0 0 0 0 0 0 0 0 false)/\Below gb w wr)) (fun _ wr=>match wr.cell? ⟨gb+1,3,none⟩with|some (.int _ n)=>10000-n.toNat|_=>0)
 case atStart=>exact⟨N /366,by omega,by omega,Lib.hid ⟨HG0.out,HB5.out.1.set_ 3 _,HB5.out.2.1.far (Nat.succ_ne_self gb).symm _,HB5.out.2.2.setCell (p:=⟨gb+1,3,none⟩) (by simp) _⟩⟩
 case round=>
  obtain⟨w7,hw7⟩:∃w7,w7=wr:=⟨_,rfl⟩
  subst hw7;obtain⟨y,hy0,hy1,HV⟩:=hrel;have hfs:=Cal.fst_succ y hy0;have hl:=Cal.lp_01 y;have bd:=Cal.fst_bd y (by omega) (by omega);have bd':=Cal.fst_bd (y+1) (by omega) (by omega);have HFS:Hid (Cal.fst (y+1)=Cal.fst y+365+Cal.lp y/\0<=Cal.lp y/\Cal.lp y<=1):=Lib.hid ⟨hfs,hl⟩;obtain⟨f1,hf1⟩:∃f1,Cal.fst (y+1)=f1:=⟨_,rfl⟩
  obtain⟨f0,hf0⟩:∃f0,Cal.fst y=f0:=⟨_,rfl⟩
  have HF01:Hid (Cal.fst (y+1)=f1/\Cal.fst y=f0):=Lib.hid ⟨hf1,hf0⟩;have HD1:Hid (∀W,Calls Tryz.prog 162 #[.int .i64 (y+1),.int .i64 1,.int .i64 1] W fun e w'=>e=.returned (.int .i64 (f1-719528))/\W=w'):=Lib.hid (fun W=>by rw[<-hf1];exact HD.out (y+1) (by omega) (by omega) W);have HD0:Hid (∀W,Calls Tryz.prog 162 #[.int .i64 y,.int .i64 1,.int .i64 1] W fun e w'=>e=.returned (.int .i64 (f0-719528))/\W=w'):=Lib.hid (fun W=>by rw[<-hf0];exact HD.out y (by omega) (by omega) W);rw[hf1]at bd';rw[hf0]at bd;clear hfs hl hf1 hf0;have q3:w7.cell? ⟨gb+1,3,none⟩=some (.int .i64 y):=HV.out.2.1.cell 3;have q4:w7.cell? ⟨gb+1,4,none⟩=some (.int .i64 0):=HV.out.2.1.cell 4;have qf:∀j,w7.frozen? ⟨gb+1,j,none⟩=false:=HV.out.2.1.frozen;have hNf:f0<=N:=by have:=HV.out.1;rw[HF01.out.2]at this;exact this
  by_cases hc:f1<=N
  ·have hcI:f1-719528<=N-719528:=by omega
   have hy4:y<9999:=by
    have:=Cal.fst_10000;by_cases e:y=9999
    ·subst e;have h2:=HF01.out.1;rw[show(9999:Int)+1=10000 from rfl]at h2;omega
    ·omega
   have HNX:Hid (Cal.fst (y+1)<=N/\Blk (w7.setCell ⟨gb+1,3,none⟩ (.int .i64 (y+1))) (gb+1) 111 (T12 true true true (y+1) 0 0 (R /3600) (R /60%60) (R%60) nanos 0 false)/\Blk (w7.setCell ⟨gb+1,3,none⟩ (.int .i64 (y+1))) gb 111 (T12 false false false 0 0 0 0 0 0 0 0 false)/\Below gb w (w7.setCell ⟨gb+1,3,none⟩ (.int .i64 (y+1)))):=Lib.hid ⟨by rw[HF01.out.1];exact hc,HV.out.2.1.set_ 3 _,HV.out.2.2.1.far (Nat.succ_ne_self gb).symm _,HV.out.2.2.2.setCell (p:=⟨gb+1,3,none⟩) (by simp) _⟩;go_wp2_with fail;refine(HD1.out _).mono ?_;rintro e w' ⟨rfl,rfl⟩;go_wp2_with fail;have q3':(w7.setCell ⟨gb+1,3,none⟩ (.int .i64 (y+1))).cell? ⟨gb+1,3,none⟩=some (.int .i64 (y+1)):=HNX.out.2.1.cell 3;go_roundw
   case rel=>exact⟨y+1,by omega,by omega,HNX⟩
   case measure=>rw[q3',q3];simp only;omega
  ·have hcI:¬f1-719528<=N-719528:=by omega
   have hN2:N<f0+366:=by have h1:=HFS.out;rw[HF01.out.1,HF01.out.2]at h1;omega
   have HNY:Hid (N<f0+365+Cal.lp y):=Lib.hid (by have h1:=HFS.out;rw[HF01.out.1,HF01.out.2]at h1;omega);go_wp2_with fail;refine(HD1.out _).mono ?_;rintro e w' ⟨rfl,rfl⟩;go_wp2_with fail;refine(HD0.out _).mono ?_;rintro e w' ⟨rfl,rfl⟩;go_wp2_with fail;clear q3 q4 qf;go_loopw [6] (fun s6 wr=>∃m v:Int,1<=m/\m<=12/\0<=v/\v<=366/\s6=.int .i64 v/\Hid (v=N-f0-Cal.cum y m/\Blk wr (gb+1) 111 (T12 true true true y m 0 (R /3600) (R /60%60) (R%60) nanos 0 false)/\Blk wr gb 111 (T12 false false false 0 0 0 0 0 0 0 0 false)/\Below gb w wr)) (fun s6 wr=>match wr.cell? ⟨gb+1,4,none⟩with|some (.int _ n)=>13-n.toNat|_=>0)
   case atStart=>exact⟨1,N-f0,by omega,by omega,by omega,by omega,by exact congrArg (Value.int .i64) (by omega),Lib.hid ⟨by rw[Cal.cum_one];omega,HV.out.2.1.set_ 4 _,HV.out.2.2.1.far (Nat.succ_ne_self gb).symm _,HV.out.2.2.2.setCell (p:=⟨gb+1,4,none⟩) (by simp) _⟩⟩
   case round=>
    obtain⟨w8,hw8⟩:∃w8,w8=wr:=⟨_,rfl⟩
    subst hw8;obtain⟨m,v,hm0,hm1,hv0,hv1,rfl,HV2⟩:=hrel;have hcs:=Cal.cum_succ y m hm0 hm1;have hdb:=Cal.dim_bd y m;obtain⟨q,hq⟩:∃q,Cal.dim y m=q:=⟨_,rfl⟩
    have HMO:Hid (∀W,Calls Tryz.prog 138 #[.int .i64 y,.int .i64 m] W fun e w'=>e=.returned (.int .i64 q)/\W=w'):=Lib.hid (fun W=>by rw[<-hq];exact rmonth_any y m hm0 hm1 W);rw[hq]at hcs hdb;have HCS:=Lib.hid hcs;have HQ:=Lib.hid hq;clear hcs hq;have q3:w8.cell? ⟨gb+1,3,none⟩=some (.int .i64 y):=HV2.out.2.1.cell 3;have q4:w8.cell? ⟨gb+1,4,none⟩=some (.int .i64 m):=HV2.out.2.1.cell 4;have qf:∀j,w8.frozen? ⟨gb+1,j,none⟩=false:=HV2.out.2.1.frozen;by_cases hd:q<=v
    ·have hm4:m<12:=by
      by_cases e:m=12
      ·subst e;have h1:=HCS.out;have h2:=HNY.out;have h3:=Cal.cum_13 y;have h4:=HV2.out.1;rw[show(12:Int)+1=13 from rfl]at h1;omega
      ·omega
     have HNX:Hid (v-q=N-f0-Cal.cum y (m+1)/\Blk (w8.setCell ⟨gb+1,4,none⟩ (.int .i64 (m+1))) (gb+1) 111 (T12 true true true y (m+1) 0 (R /3600) (R /60%60) (R%60) nanos 0 false)/\Blk (w8.setCell ⟨gb+1,4,none⟩ (.int .i64 (m+1))) gb 111 (T12 false false false 0 0 0 0 0 0 0 0 false)/\Below gb w (w8.setCell ⟨gb+1,4,none⟩ (.int .i64 (m+1)))):=Lib.hid ⟨by rw[HCS.out];have:=HV2.out.1;omega,HV2.out.2.1.set_ 4 _,HV2.out.2.2.1.far (Nat.succ_ne_self gb).symm _,HV2.out.2.2.2.setCell (p:=⟨gb+1,4,none⟩) (by simp) _⟩;go_wp2_with fail;refine(HMO.out _).mono ?_;rintro e w' ⟨rfl,rfl⟩;go_wp2_with fail;refine(HMO.out _).mono ?_;rintro e w' ⟨rfl,rfl⟩;go_wp2_with fail;have q4':(w8.setCell ⟨gb+1,4,none⟩ (.int .i64 (m+1))).cell? ⟨gb+1,4,none⟩=some (.int .i64 (m+1)):=HNX.out.2.1.cell 4;go_roundw
     case rel=>exact⟨m+1,v-q,by omega,by omega,by omega,by omega,rfl,HNX⟩
     case measure=>rw[q4',q4];simp only;omega
    ·have HB8:Hid (Blk (w8.setCell ⟨gb+1,5,none⟩ (.int .i64 (v+1))) (gb+1) 111 (T12 true true true y m (v+1) (R /3600) (R /60%60) (R%60) nanos 0 false)/\Blk (w8.setCell ⟨gb+1,5,none⟩ (.int .i64 (v+1))) gb 111 (T12 false false false 0 0 0 0 0 0 0 0 false)/\Below gb w (w8.setCell ⟨gb+1,5,none⟩ (.int .i64 (v+1)))):=Lib.hid ⟨HV2.out.2.1.set_ 5 _,HV2.out.2.2.1.far (Nat.succ_ne_self gb).symm _,HV2.out.2.2.2.setCell (p:=⟨gb+1,5,none⟩) (by simp) _⟩;have q5:w8.cell? ⟨gb+1,5,none⟩=some (.int .i64 0):=HV2.out.2.1.cell 5;go_wp2_with fail;refine(HMO.out _).mono ?_;rintro e w' ⟨rfl,rfl⟩;go_upto_region 14 with fail;obtain⟨w9,hw9⟩:∃w9,(w8.setCell ⟨gb+1,5,none⟩ (.int .i64 (v+1)))=w9:=⟨_,rfl⟩
     rw[hw9]at HB8 ⊢;clear hw9 q3 q4 q5 qf;obtain⟨a0,a1,a2,a3,a4,a5,a6,a7,a8,a9,a10,a11⟩:=cells12 HB8.out.1;have xb:∀j,w9.cell? ⟨gb,j,none⟩=(#[.bool false,.bool false,.bool false,.int .i64 0,.int .i64 0,.int .i64 0,.int .i64 0,.int .i64 0,.int .i64 0,.int .i64 0,.int .i64 0,.bool false]:Array Value)[j]? :=fun j=>HB8.out.2.1.cell j
     have xf:∀j,w9.frozen? ⟨gb,j,none⟩=false:=HB8.out.2.1.frozen;go_wp2_with fail;have HSB:Blk ((((((((((((w9.setCell ⟨gb,0,none⟩ (.bool true)).setCell ⟨gb,1,none⟩ (.bool true)).setCell ⟨gb,2,none⟩ (.bool true)).setCell ⟨gb,3,none⟩ (.int .i64 y)).setCell ⟨gb,4,none⟩ (.int .i64 m)).setCell ⟨gb,5,none⟩ (.int .i64 (v+1))).setCell ⟨gb,6,none⟩ (.int .i64 (R /3600))).setCell ⟨gb,7,none⟩ (.int .i64 (R /60%60))).setCell ⟨gb,8,none⟩ (.int .i64 (R%60))).setCell ⟨gb,9,none⟩ (.int .i64 nanos)).setCell ⟨gb,10,none⟩ (.int .i64 0)).setCell ⟨gb,11,none⟩ (.bool false)) gb 111 (T12 true true true y m (v+1) (R /3600) (R /60%60) (R%60) nanos 0 false):=stored12 HB8.out.2.1;have HSH:Below gb w ((((((((((((w9.setCell ⟨gb,0,none⟩ (.bool true)).setCell ⟨gb,1,none⟩ (.bool true)).setCell ⟨gb,2,none⟩ (.bool true)).setCell ⟨gb,3,none⟩ (.int .i64 y)).setCell ⟨gb,4,none⟩ (.int .i64 m)).setCell ⟨gb,5,none⟩ (.int .i64 (v+1))).setCell ⟨gb,6,none⟩ (.int .i64 (R /3600))).setCell ⟨gb,7,none⟩ (.int .i64 (R /60%60))).setCell ⟨gb,8,none⟩ (.int .i64 (R%60))).setCell ⟨gb,9,none⟩ (.int .i64 nanos)).setCell ⟨gb,10,none⟩ (.int .i64 0)).setCell ⟨gb,11,none⟩ (.bool false)):=below12 HB8.out.2.2 (Nat.le_refl gb) _ _ _ _ _ _ _ _ _ _ _ _;obtain⟨e0,e1,e2,e3,e4,e5,e6,e7,e8,e9,e10,e11⟩:=cells12 HSB;refine bodyPost_ret (v:=.agg #[.bool true,.bool true,.bool true,.int .i64 y,.int .i64 m,.int .i64 (v+1),.int .i64 (R /3600),.int .i64 (R /60%60),.int .i64 (R%60),.int .i64 nanos,.int .i64 0,.bool false]) (by simp[results,Tryz.results133,go_sem,e0,e1,e2,e3,e4,e5,e6,e7,e8,e9,e10,e11]) rfl ?_;unfold OfPost;rw[HNR.out.1,HNR.out.2,HGB.out];exact⟨y,m,v+1,Cal.vld_mk ⟨hy0,hy1,hm0,hm1,by omega,by rw[HQ.out];omega⟩,by unfold Cal.num;rw[HF01.out.2];have:=HV2.out.1;omega,rfl,HSH⟩
end Go.Proofs.YtoigpackhninoaaGreatDoor

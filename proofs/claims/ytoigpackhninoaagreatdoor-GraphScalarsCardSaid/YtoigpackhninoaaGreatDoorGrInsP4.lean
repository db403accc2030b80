import Derived.Test.YtoigpackhninoaaGreatDoorZ21
import Derived.Test.YtoigpackhninoaaGreatDoorGrCiv
namespace Go.Proofs.YtoigpackhninoaaGreatDoor
open _root_.Go.Proofs.Tryz
open _root_.Go.Lib (hid)
set_option maxRecDepth 100000
set_option maxHeartbeats 16000000
open Go.RowKit
theorem zg1 (sh y m d h mi c zh zm nanos z:Int) (hv:Cal.vld y m d=true) (h0:0<=h) (h1:h<=1000) (h2:0<=mi) (h3:mi<=1000) (h4:0<=c) (h5:c<=1000) (h6:0<=zh) (h7:zh<=1000) (h8:0<=zm) (h9:zm<=1000) (w:World):
 Calls prog 95 #[.agg #[.int .i64 sh,.int .i64 y,.int .i64 m,.int .i64 d,.int .i64 h,.int .i64 mi,.int .i64 c,.int .i64 zh,.int .i64 zm,.int .i64 nanos,.int .u8 z]] w fun e w'=>e=.returned (.int .i64 (if z=43 then Cal.num y m d*86400+h*3600+mi*60+c-(zh*3600+zm*60)else Cal.num y m d*86400+h*3600+mi*60+c+(zh*3600+zm*60)))/\Below w.heap.size w w':=by
 have HD:=hid (fun W=>zi9 y m d hv W);have hb:=Cal.zuf hv;obtain⟨q,hq⟩:=ex (Cal.num y m d)
 rw[hq]at HD hb ⊢;obtain⟨hb0,hb1⟩:=hb;clear hq hv;obtain⟨r,hr⟩:=ex (if z=43 then q*86400+h*3600+mi*60+c-(zh*3600+zm*60)else q*86400+h*3600+mi*60+c+(zh*3600+zm*60))
 have HR:=hid hr;rw[hr];clear hr;go_enter func95,ntmps95;go_upto_region 1 with fail;obtain⟨gb,hgb⟩:=ex w.heap.size
 obtain⟨w0,hw0⟩:∃w0,w0=w.alloc (.cells #[.int .i64 sh,.int .i64 y,.int .i64 m,.int .i64 d,.int .i64 h,.int .i64 mi,.int .i64 c,.int .i64 zh,.int .i64 zm,.int .i64 nanos,.int .u8 z] 135):=⟨_,rfl⟩
 have HB0:Hid (Blk w0 gb 135 #[.int .i64 sh,.int .i64 y,.int .i64 m,.int .i64 d,.int .i64 h,.int .i64 mi,.int .i64 c,.int .i64 zh,.int .i64 zm,.int .i64 nanos,.int .u8 z]/\Below gb w w0):=hid (by rw[hw0,<-hgb];exact⟨Blk.new _ _ _,(Below.refl _ _).alloc (Nat.le_refl _) _⟩);have HGB:=hid hgb;(try rw[<-hw0]);(try rw[hgb]);clear hw0 hgb;have q1:w0.cell? ⟨gb,1,none⟩=some (.int .i64 y):=HB0.out.1.cell 1;have q2:w0.cell? ⟨gb,2,none⟩=some (.int .i64 m):=HB0.out.1.cell 2;have q3:w0.cell? ⟨gb,3,none⟩=some (.int .i64 d):=HB0.out.1.cell 3;go_wp2_with fail;refine(HD.out _).mono ?_;rintro e w1 ⟨rfl,hbb⟩;have HB1:Hid (Blk w1 gb 135 #[.int .i64 sh,.int .i64 y,.int .i64 m,.int .i64 d,.int .i64 h,.int .i64 mi,.int .i64 c,.int .i64 zh,.int .i64 zm,.int .i64 nanos,.int .u8 z]/\Below gb w w1):=hid ⟨HB0.out.1.below hbb HB0.out.1.lt,HB0.out.2.trans (hbb.mono (Nat.le_of_lt HB0.out.1.lt))⟩;clear hbb q1 q2 q3;have q4:w1.cell? ⟨gb,4,none⟩=some (.int .i64 h):=HB1.out.1.cell 4;have q5:w1.cell? ⟨gb,5,none⟩=some (.int .i64 mi):=HB1.out.1.cell 5;have q6:w1.cell? ⟨gb,6,none⟩=some (.int .i64 c):=HB1.out.1.cell 6;have q7:w1.cell? ⟨gb,7,none⟩=some (.int .i64 zh):=HB1.out.1.cell 7;have q8:w1.cell? ⟨gb,8,none⟩=some (.int .i64 zm):=HB1.out.1.cell 8;have q10:w1.cell? ⟨gb,10,none⟩=some (.int .u8 z):=HB1.out.1.cell 10;by_cases hz:z=43
 ·have hzb:(z==43)=true:=by simpa using hz
  have HF:Hid (r=q*86400+h*3600+mi*60+c-(zh*3600+zm*60)):=hid (by rw[<-HR.out,if_pos hz]);clear hz;go_wp2;go_ret;rw[HF.out,HGB.out];exact⟨rfl,HB1.out.2⟩
 ·have hzb:(z==43)=false:=by simpa using hz
  have HF:Hid (r=q*86400+h*3600+mi*60+c+(zh*3600+zm*60)):=hid (by rw[<-HR.out,if_neg hz]);go_wp2;go_ret;rw[HF.out,HGB.out];exact⟨rfl,HB1.out.2⟩
def prngB (sh:Int) (y m d h mi c zh zm:Nat):Bool:=(decide (sh=2) || Cal.vld y m d) && decide (h<=23) && decide (mi<=59) && decide (c<=59) && decide (zh<=23) && decide (zm<=59)
theorem zeg (sh:Int) (y m d h mi c zh zm:Nat) (nanos z:Int) (w:World):
 Calls prog 93 #[.agg #[.int .i64 sh,.int .i64 (y:Int),.int .i64 (m:Int),.int .i64 (d:Int),.int .i64 (h:Int),.int .i64 (mi:Int),.int .i64 (c:Int),.int .i64 (zh:Int),.int .i64 (zm:Int),.int .i64 nanos,.int .u8 z]] w fun e w'=>e=.returned (.bool (prngB sh y m d h mi c zh zm))/\Below w.heap.size w w':=by
 have HY:=hid (fun hv W=>zi9 (y:Int) (m:Int) (d:Int) hv W);have HN:=hid (fun hv W=>zr0 (y:Int) (m:Int) (d:Int) hv W);obtain⟨r,hr⟩:=ex (prngB sh y m d h mi c zh zm)
 have HR:=hid hr;rw[hr];clear hr;go_enter func93,ntmps93;go_upto_region 1 with fail;obtain⟨gb,hgb⟩:=ex w.heap.size
 obtain⟨w0,hw0⟩:∃w0,w0=w.alloc (.cells #[.int .i64 sh,.int .i64 (y:Int),.int .i64 (m:Int),.int .i64 (d:Int),.int .i64 (h:Int),.int .i64 (mi:Int),.int .i64 (c:Int),.int .i64 (zh:Int),.int .i64 (zm:Int),.int .i64 nanos,.int .u8 z] 135):=⟨_,rfl⟩
 have HB0:Hid (Blk w0 gb 135 #[.int .i64 sh,.int .i64 (y:Int),.int .i64 (m:Int),.int .i64 (d:Int),.int .i64 (h:Int),.int .i64 (mi:Int),.int .i64 (c:Int),.int .i64 (zh:Int),.int .i64 (zm:Int),.int .i64 nanos,.int .u8 z]/\Below gb w w0):=hid (by rw[hw0,<-hgb];exact⟨Blk.new _ _ _,(Below.refl _ _).alloc (Nat.le_refl _) _⟩);have HGB:=hid hgb;(try rw[<-hw0]);(try rw[hgb]);clear hw0 hgb;obtain⟨st,hst⟩:=ex (decide (sh=2))
 have HST:=hid hst;go_cut [10] (fun s10 wx=>s10=.bool (!st)/\wx=w0)
 case first=>
  have q0:w0.cell? ⟨gb,0,none⟩=some (.int .i64 sh):=HB0.out.1.cell 0;have hbe:(sh != 2)=!st:=by rw[<-hst,bne];congr 1
  have hbe2:(sh==2)=st:=by rw[<-hst];rfl
  clear hst;go_wp2;go_meet
  first|exact⟨rfl,rfl⟩|exact⟨by simp,rfl⟩
 case rest=>
 obtain⟨rfl,rfl⟩:=hcut;refine(‹∀(a:Act) (w_1:World),Code.wp prog _ _ a w_1->_›) _ _ ?_;go_cut [] (fun wx=>Hid ((sh=2\/Cal.vld y m d=true)/\Blk wx gb 135 #[.int .i64 sh,.int .i64 (y:Int),.int .i64 (m:Int),.int .i64 (d:Int),.int .i64 (h:Int),.int .i64 (mi:Int),.int .i64 (c:Int),.int .i64 (zh:Int),.int .i64 (zm:Int),.int .i64 nanos,.int .u8 z]/\Below gb w wx))
 case first=>
  have q1:wc.cell? ⟨gb,1,none⟩=some (.int .i64 (y:Int)):=HB0.out.1.cell 1;have q2:wc.cell? ⟨gb,2,none⟩=some (.int .i64 (m:Int)):=HB0.out.1.cell 2;have q3:wc.cell? ⟨gb,3,none⟩=some (.int .i64 (d:Int)):=HB0.out.1.cell 3;clear hst;cases st with
  |true=>
   have HS:Hid (sh=2):=hid (of_decide_eq_true HST.out);go_wp2;go_meet;exact hid ⟨.inl HS.out,HB0.out.1,HB0.out.2⟩
  |false=>
   have HS:Hid (¬sh=2):=hid (of_decide_eq_false HST.out);cases hv:Cal.vld y m d with
   |true=>
    have HV:=hid hv;have HC:=hid (HY.out hv);clear hv;go_wp2_with fail;refine(HC.out _).mono ?_;rintro e w1 ⟨rfl,hbb⟩;have HB1:Hid (Blk w1 gb 135 #[.int .i64 sh,.int .i64 (y:Int),.int .i64 (m:Int),.int .i64 (d:Int),.int .i64 (h:Int),.int .i64 (mi:Int),.int .i64 (c:Int),.int .i64 (zh:Int),.int .i64 (zm:Int),.int .i64 nanos,.int .u8 z]/\Below gb w w1):=hid ⟨HB0.out.1.below hbb HB0.out.1.lt,HB0.out.2.trans (hbb.mono (Nat.le_of_lt HB0.out.1.lt))⟩;clear hbb q1 q2 q3;go_wp2;go_meet;exact hid ⟨.inr HV.out,HB1.out.1,HB1.out.2⟩
   |false=>
    have HF:Hid (r=false):=hid (by rw[<-HR.out];unfold prngB;rw[hv,decide_eq_false HS.out];rfl);have HC:=hid (HN.out hv);clear hv;go_wp2_with fail;refine(HC.out _).mono ?_;rintro e w1 ⟨rfl,hbb⟩;have HB1:Hid (Blk w1 gb 135 #[.int .i64 sh,.int .i64 (y:Int),.int .i64 (m:Int),.int .i64 (d:Int),.int .i64 (h:Int),.int .i64 (mi:Int),.int .i64 (c:Int),.int .i64 (zh:Int),.int .i64 (zm:Int),.int .i64 nanos,.int .u8 z]/\Below gb w w1):=hid ⟨HB0.out.1.below hbb HB0.out.1.lt,HB0.out.2.trans (hbb.mono (Nat.le_of_lt HB0.out.1.lt))⟩;clear hbb q1 q2 q3;go_wp2;go_ret;rw[HF.out,HGB.out];exact⟨rfl,HB1.out.2⟩
 case rest=>
 have HB2:=hcut;clear hcut HB0 hst;refine(‹∀(a:Act) (w_1:World),Code.wp prog _ _ a w_1->_›) _ _ ?_;have i0:∀w,(Instr.index 173 (.agg #[.int .i64 23,.int .i64 59,.int .i64 59,.int .i64 23,.int .i64 59]) (.int .i64 0)).run prog w=.ok (.int .i64 23) w:=fun _=>by kernel_rfl
 have i1:∀w,(Instr.index 173 (.agg #[.int .i64 23,.int .i64 59,.int .i64 59,.int .i64 23,.int .i64 59]) (.int .i64 1)).run prog w=.ok (.int .i64 59) w:=fun _=>by kernel_rfl
 have i2:∀w,(Instr.index 173 (.agg #[.int .i64 23,.int .i64 59,.int .i64 59,.int .i64 23,.int .i64 59]) (.int .i64 2)).run prog w=.ok (.int .i64 59) w:=fun _=>by kernel_rfl
 have i3:∀w,(Instr.index 173 (.agg #[.int .i64 23,.int .i64 59,.int .i64 59,.int .i64 23,.int .i64 59]) (.int .i64 3)).run prog w=.ok (.int .i64 23) w:=fun _=>by kernel_rfl
 have i4:∀w,(Instr.index 173 (.agg #[.int .i64 23,.int .i64 59,.int .i64 59,.int .i64 23,.int .i64 59]) (.int .i64 4)).run prog w=.ok (.int .i64 59) w:=fun _=>by kernel_rfl
 go_upto_block 0 with fail;obtain⟨w3,hw3⟩:=ex (wc.alloc (.cells #[.int .i64 23,.int .i64 59,.int .i64 59,.int .i64 23,.int .i64 59] 173))
 have HB3:Hid (Blk w3 gb 135 #[.int .i64 sh,.int .i64 (y:Int),.int .i64 (m:Int),.int .i64 (d:Int),.int .i64 (h:Int),.int .i64 (mi:Int),.int .i64 (c:Int),.int .i64 (zh:Int),.int .i64 (zm:Int),.int .i64 nanos,.int .u8 z]/\Below gb w w3):=hid (by rw[<-hw3];exact⟨HB2.out.2.1.alloc _,HB2.out.2.2.alloc (Nat.le_of_lt HB2.out.2.1.lt) _⟩);(try rw[hw3]);clear hw3;have q4:w3.cell? ⟨gb,4,none⟩=some (.int .i64 (h:Int)):=HB3.out.1.cell 4;have q5:w3.cell? ⟨gb,5,none⟩=some (.int .i64 (mi:Int)):=HB3.out.1.cell 5;have q6:w3.cell? ⟨gb,6,none⟩=some (.int .i64 (c:Int)):=HB3.out.1.cell 6;have q7:w3.cell? ⟨gb,7,none⟩=some (.int .i64 (zh:Int)):=HB3.out.1.cell 7;have q8:w3.cell? ⟨gb,8,none⟩=some (.int .i64 (zm:Int)):=HB3.out.1.cell 8;go_wp2_with fail;go_loop [28] (fun s28=>∃k:Int,0<=k/\k<=5/\s28=.int .i64 k/\Hid ((0<k->h<=23)/\(1<k->mi<=59)/\(2<k->c<=59)/\(3<k->zh<=23)/\(4<k->zm<=59))) (fun s28=>5-(intOf s28).toNat)
 case atStart=>exact⟨0,by omega,by omega,rfl,hid ⟨by omega,by omega,by omega,by omega,by omega⟩⟩
 case round=>
  obtain⟨k,hk0,hk5,rfl,HV⟩:=hrel;have hkc:k=0\/k=1\/k=2\/k=3\/k=4\/k=5:=by omega
  rcases hkc with rfl|rfl|rfl|rfl|rfl|rfl
  ·by_cases hx:h<=23
   ·have hxI:¬(23:Int)<(h:Int):=by omega
    have HX:=hid hx;clear hx;go_wp2;go_round
    case rel=>exact⟨1,by omega,by omega,rfl,hid (by obtain⟨a0,a1,a2,a3,a4⟩:=HV.out;have:=HX.out;exact⟨by omega,by omega,by omega,by omega,by omega⟩)⟩
    case measure=>simp[intOf]
   ·have hxI:(23:Int)<(h:Int):=by omega
    have HF:Hid (r=false):=hid (by rw[<-HR.out];unfold prngB;rw[decide_eq_false (p:=h<=23) hx];simp);clear hx;go_wp2;go_ret;rw[HF.out,HGB.out];exact⟨rfl,HB3.out.2⟩
  ·by_cases hx:mi<=59
   ·have hxI:¬(59:Int)<(mi:Int):=by omega
    have HX:=hid hx;clear hx;go_wp2;go_round
    case rel=>exact⟨2,by omega,by omega,rfl,hid (by obtain⟨a0,a1,a2,a3,a4⟩:=HV.out;have:=HX.out;exact⟨by omega,by omega,by omega,by omega,by omega⟩)⟩
    case measure=>simp[intOf]
   ·have hxI:(59:Int)<(mi:Int):=by omega
    have HF:Hid (r=false):=hid (by rw[<-HR.out];unfold prngB;rw[decide_eq_false (p:=mi<=59) hx];simp);clear hx;go_wp2;go_ret;rw[HF.out,HGB.out];exact⟨rfl,HB3.out.2⟩
  ·by_cases hx:c<=59
   ·have hxI:¬(59:Int)<(c:Int):=by omega
    have HX:=hid hx;clear hx;go_wp2;go_round
    case rel=>exact⟨3,by omega,by omega,rfl,hid (by obtain⟨a0,a1,a2,a3,a4⟩:=HV.out;have:=HX.out;exact⟨by omega,by omega,by omega,by omega,by omega⟩)⟩
    case measure=>simp[intOf]
   ·have hxI:(59:Int)<(c:Int):=by omega
    have HF:Hid (r=false):=hid (by rw[<-HR.out];unfold prngB;rw[decide_eq_false (p:=c<=59) hx];simp);clear hx;go_wp2;go_ret;rw[HF.out,HGB.out];exact⟨rfl,HB3.out.2⟩
  ·by_cases hx:zh<=23
   ·have hxI:¬(23:Int)<(zh:Int):=by omega
    have HX:=hid hx;clear hx;go_wp2;go_round
    case rel=>exact⟨4,by omega,by omega,rfl,hid (by obtain⟨a0,a1,a2,a3,a4⟩:=HV.out;have:=HX.out;exact⟨by omega,by omega,by omega,by omega,by omega⟩)⟩
    case measure=>simp[intOf]
   ·have hxI:(23:Int)<(zh:Int):=by omega
    have HF:Hid (r=false):=hid (by rw[<-HR.out];unfold prngB;rw[decide_eq_false (p:=zh<=23) hx];simp);clear hx;go_wp2;go_ret;rw[HF.out,HGB.out];exact⟨rfl,HB3.out.2⟩
  ·by_cases hx:zm<=59
   ·have hxI:¬(59:Int)<(zm:Int):=by omega
    have HX:=hid hx;clear hx;go_wp2;go_round
    case rel=>exact⟨5,by omega,by omega,rfl,hid (by obtain⟨a0,a1,a2,a3,a4⟩:=HV.out;have:=HX.out;exact⟨by omega,by omega,by omega,by omega,by omega⟩)⟩
    case measure=>simp[intOf]
   ·have hxI:(59:Int)<(zm:Int):=by omega
    have HF:Hid (r=false):=hid (by rw[<-HR.out];unfold prngB;rw[decide_eq_false (p:=zm<=59) hx];simp);clear hx;go_wp2;go_ret;rw[HF.out,HGB.out];exact⟨rfl,HB3.out.2⟩
  ·have HF:Hid (r=true):=hid (by
    obtain⟨a0,a1,a2,a3,a4⟩:=HV.out;rw[<-HR.out];unfold prngB;rw[decide_eq_true (a0 (by omega)),decide_eq_true (a1 (by omega)),decide_eq_true (a2 (by omega)),decide_eq_true (a3 (by omega)),decide_eq_true (a4 (by omega))];rcases HB2.out.1 with h|h<;>simp[h])
   go_wp2;go_ret;rw[HF.out,HGB.out];exact⟨rfl,HB3.out.2⟩
end Go.Proofs.YtoigpackhninoaaGreatDoor

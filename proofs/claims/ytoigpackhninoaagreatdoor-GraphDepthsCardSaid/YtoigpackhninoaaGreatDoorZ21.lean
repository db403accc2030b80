import Derived.Test.YtoigpackhninoaaGreatDoorZ14
namespace Go.Proofs.YtoigpackhninoaaGreatDoor
open Gr
open _root_.Go.Proofs.Tryz
set_option maxRecDepth 100000
set_option maxHeartbeats 16000000
open Go.RowKit
theorem zqk (s:Gr.Str) (hl:s.length<=1073741823) (a:Nat) (ha:a<=1073741824) (date:Bool) (Y M D H N0 C:Int) (z:Bool) (w wy:World) (gb:Nat)
 (HGO:Hid (∀(r:Int) (ok:Bool) (n:Int) (w':World),Below w.heap.size w w'->(clockAt s a=none/\r=-1\/∃h m c f t:Nat,clockAt s a=some ⟨h,m,c,f,t⟩/\r=(t:Int)/\ok=true/\H=h/\N0=m/\C=c/\n=f)->zbf s a date Y M D w (.returned (.tuple #[.agg #[.bool date,.bool ok,.bool false,.int .i64 Y,.int .i64 M,.int .i64 D,.int .i64 H,.int .i64 N0,.int .i64 C,.int .i64 n,.int .i64 0,.bool false],.int .i64 r])) w'))
 (HF:Hid (∃h m c:Nat,numAt s a 2=some h/\numAt s (a+3) 2=some m/\numAt s (a+6) 2=some c/\H=h/\N0=m/\C=c)) (HP:Hid (isAt s (a+2) 58=true/\isAt s (a+5) 58=true/\isAt s (a+8) 46=z))
 (HI3:Hid (∀W,Calls prog 136 #[.string ⟨s.toArray⟩,.int .i64 ((a:Int)+8),.int .u8 46] W fun e w'=>e=.returned (.bool z)/\W=w'))
 (HGB:Hid (w.heap.size=gb)) (HB:Hid (Blk wy gb 111 (T12 date true false Y M D H N0 C 0 0 false)/\Blk wy (gb+1) 111 (T12 false false false 0 0 0 0 0 0 0 0 false)/\Below gb w wy))
 {u2 u3 u4 u7 u8 u9 u10 u11 u12 u13 u14 u15 u16 u17 u18 u19 u20 u21 u22 u23 u24 u25 u26 u27 u28 u29 u30 u31 u32 u33 u34 u35 u36 u37 u38 u39 u40 u41 u42 u43 u44 u45 u46 u47 u48 u49 u50 u51 u52 u53 u54 u55 u56 u57 u58 u59 u60 u61 u62 u63 u64 u65 u66 u67 u68 u69 u70 u71 u72 u73 u74 u75 u76 u77 u78 u79 u80 u81 u82 u83 u84 u85 u86 u87 u88 u89 u90 u91 u92 u93 u94 u95 u96 u97 u98 u99 u100 u101 u102 u103 u104 u105 u106 u107 u108 u109 u110 u111 u112 u113 u114 u115:Value}:
 Code.wp prog (tl 5 (f135.body.getD .skip)) (bodyPost prog f135 (zbf s a date Y M D w)) {tmps:=List.toArray (.string ⟨s.toArray⟩::.int .i64 ((a:Int)+8)::u2::u3::u4::.pointer (some ⟨gb,0,none⟩)::.pointer (some ⟨gb+1,0,none⟩)::u7::u8::u9::u10::u11::u12::u13::u14::u15::u16::u17::u18::u19::u20::u21::u22::u23::u24::u25::u26::u27::u28::u29::u30::u31::u32::u33::u34::u35::u36::u37::u38::u39::u40::u41::u42::u43::u44::u45::u46::u47::u48::u49::u50::u51::u52::u53::u54::u55::u56::u57::u58::u59::u60::u61::u62::u63::u64::u65::u66::u67::u68::u69::u70::u71::u72::u73::u74::u75::u76::u77::u78::u79::u80::u81::u82::u83::u84::u85::u86::u87::u88::u89::u90::u91::u92::u93::u94::u95::u96::u97::u98::u99::u100::u101::u102::u103::u104::u105::u106::u107::u108::u109::u110::u111::u112::u113::u114::u115::[]),defers:=[]} wy:=by
 generalize hc0:tl 5 (f135.body.getD .skip)=c0;simp only[tl,f135,Option.getD_some]at hc0;subst hc0;go_upto_region 6 with fail;go_cut [58] (fun s58 wx=>s58=.bool (!z)/\wx=wy)
 case first=>
  go_wp2_with fail;refine(HI3.out _).mono ?_;rintro e w1 ⟨rfl,rfl⟩;go_wp2;go_meet;exact⟨rfl,rfl⟩
 case rest=>
 obtain⟨rfl,rfl⟩:=hcut;refine(‹∀(a:Act) (w_1:World),Code.wp prog _ _ a w_1->_›) _ _ ?_;go_cut [] (fun wz=>z=true/\wz=wc)
 case first=>
  obtain⟨q0,q1,q2,q3,q4,q5,q6,q7,q8,q9,q10,q11⟩:=zag HB.out.1;have xb:∀j,wc.cell? ⟨gb+1,j,none⟩=(#[.bool false,.bool false,.bool false,.int .i64 0,.int .i64 0,.int .i64 0,.int .i64 0,.int .i64 0,.int .i64 0,.int .i64 0,.int .i64 0,.bool false]:Array Value)[j]? :=fun j=>HB.out.2.1.cell j
  have xf:∀j,wc.frozen? ⟨gb+1,j,none⟩=false:=HB.out.2.1.frozen;cases z with
  |false=>
   go_wp2_with fail;have HSB:Hid (Blk ((((((((((((wc.setCell ⟨gb+1,0,none⟩ (.bool date)).setCell ⟨gb+1,1,none⟩ (.bool true)).setCell ⟨gb+1,2,none⟩ (.bool false)).setCell ⟨gb+1,3,none⟩ (.int .i64 Y)).setCell ⟨gb+1,4,none⟩ (.int .i64 M)).setCell ⟨gb+1,5,none⟩ (.int .i64 D)).setCell ⟨gb+1,6,none⟩ (.int .i64 H)).setCell ⟨gb+1,7,none⟩ (.int .i64 N0)).setCell ⟨gb+1,8,none⟩ (.int .i64 C)).setCell ⟨gb+1,9,none⟩ (.int .i64 0)).setCell ⟨gb+1,10,none⟩ (.int .i64 0)).setCell ⟨gb+1,11,none⟩ (.bool false)) (gb+1) 111 (T12 date true false Y M D H N0 C 0 0 false)):=Lib.hid (zbb HB.out.2.1);have HSH:Hid (Below gb w ((((((((((((wc.setCell ⟨gb+1,0,none⟩ (.bool date)).setCell ⟨gb+1,1,none⟩ (.bool true)).setCell ⟨gb+1,2,none⟩ (.bool false)).setCell ⟨gb+1,3,none⟩ (.int .i64 Y)).setCell ⟨gb+1,4,none⟩ (.int .i64 M)).setCell ⟨gb+1,5,none⟩ (.int .i64 D)).setCell ⟨gb+1,6,none⟩ (.int .i64 H)).setCell ⟨gb+1,7,none⟩ (.int .i64 N0)).setCell ⟨gb+1,8,none⟩ (.int .i64 C)).setCell ⟨gb+1,9,none⟩ (.int .i64 0)).setCell ⟨gb+1,10,none⟩ (.int .i64 0)).setCell ⟨gb+1,11,none⟩ (.bool false))):=Lib.hid (zcc HB.out.2.2 (Nat.le_succ gb));obtain⟨e0,e1,e2,e3,e4,e5,e6,e7,e8,e9,e10,e11⟩:=zag HSB.out;refine bodyPost_ret (v:=.tuple #[.agg #[.bool date,.bool true,.bool false,.int .i64 Y,.int .i64 M,.int .i64 D,.int .i64 H,.int .i64 N0,.int .i64 C,.int .i64 0,.int .i64 0,.bool false],.int .i64 ((a:Int)+8)]) (by rw[results_cell_tmp rfl];go_simp) rfl ?_;refine HGO.out _ _ _ _ (by rw[HGB.out];exact HSH.out) (.inr ?_);obtain⟨h,m,c,h1,h2,h3,h4,h5,h6⟩:=HF.out;exact⟨h,m,c,0,a+8,zj7 h1 h2 h3 HP.out.1 HP.out.2.1 HP.out.2.2,by omega,rfl,h4,h5,h6,rfl⟩
  |true=>
   go_wp2;go_meet
   first|exact⟨rfl,rfl⟩|exact⟨trivial,rfl⟩
 case rest=>
  obtain⟨rfl,rfl⟩:=hcut;have HA8:Hid (a+9<=s.length):=Lib.hid (by
   have:=HP.out.2.2;unfold isAt at this;rcases Nat.lt_or_ge (a+8) s.length with h|h
   ·omega
   ·rw[List.getElem?_eq_none h]at this;cases this)
  refine(‹∀(a:Act) (w_1:World),Code.wp prog _ _ a w_1->_›) _ _ ?_;exact zm6 s hl a ha date Y M D H N0 C w _ gb HGO HF HP HA8 HGB HB
open Lib (hid)
theorem zgf (s:Gr.Str) (hl:s.length<=1073741823) (a:Nat) (i:Int) (hi:i=(a:Int)) (ha:a<=1073741824) (date:Bool) (Y M D:Int) (w:World):
 Calls prog 135 #[.string ⟨s.toArray⟩,.int .i64 i,.agg #[.bool date,.bool false,.bool false,.int .i64 Y,.int .i64 M,.int .i64 D,.int .i64 0,.int .i64 0,.int .i64 0,.int .i64 0,.int .i64 0,.bool false]] w (zbf s a date Y M D w):=by
 subst hi;have HT1:=hid (fun W=>zcm s hl a 2 (a:Int) 2 rfl rfl (by omega) (by omega) W);have HT2:=hid (fun W=>zcm s hl (a+3) 2 ((a:Int)+3) 2 (by omega) rfl (by omega) (by omega) W);have HT3:=hid (fun W=>zcm s hl (a+6) 2 ((a:Int)+6) 2 (by omega) rfl (by omega) (by omega) W);have HI1:=hid (fun W=>zcn s hl (a+2) ((a:Int)+2) (by omega) 58 58 rfl W);have HI2:=hid (fun W=>zcn s hl (a+5) ((a:Int)+5) (by omega) 58 58 rfl W);have HI3:=hid (fun W=>zcn s hl (a+8) ((a:Int)+8) (by omega) 46 46 rfl W);have HSH:=hid (fun h=> @zcp s a 2 h);have HSM:=hid (fun h=> @zcp s (a+3) 2 h);have HSC:=hid (fun h=> @zcp s (a+6) 2 h);have HNH:=hid (fun h=> @zcq s a 2 h);have HNM:=hid (fun h=> @zcq s (a+3) 2 h);have HNC:=hid (fun h=> @zcq s (a+6) 2 h);have bH:=zis s a 2 (by omega);have bM:=zis s (a+3) 2 (by omega);have bC:=zis s (a+6) 2 (by omega);obtain⟨H,hH⟩:=ex (tw s a 2)
 obtain⟨N0,hN⟩:=ex (tw s (a+3) 2)
 obtain⟨C,hC⟩:=ex (tw s (a+6) 2)
 obtain⟨p,hp⟩:=ex (isAt s (a+2) 58)
 obtain⟨q,hq⟩:=ex (isAt s (a+5) 58)
 obtain⟨z,hz⟩:=ex (isAt s (a+8) 46)
 have HP:Hid (isAt s (a+2) 58=p/\isAt s (a+5) 58=q/\isAt s (a+8) 46=z):=hid ⟨hp,hq,hz⟩;rw[hH]at HT1 HSH HNH bH;rw[hN]at HT2 HSM HNM bM;rw[hC]at HT3 HSC HNC bC;rw[hp]at HI1;rw[hq]at HI2;rw[hz]at HI3;clear hH hN hC hp hq hz;have hc:H<0\/(¬H<0/\N0<0)\/(¬H<0/\¬N0<0/\C<0)\/(¬H<0/\¬N0<0/\¬C<0/\p=false)\/(¬H<0/\¬N0<0/\¬C<0/\p=true/\q=false)\/(¬H<0/\¬N0<0/\¬C<0/\p=true/\q=true):=by
  cases p<;>cases q<;>simp<;>omega
 have go:∀(r:Int) (ok:Bool) (n:Int) (w':World),Below w.heap.size w w'->(clockAt s a=none/\r=-1\/∃h m c f t:Nat,clockAt s a=some ⟨h,m,c,f,t⟩/\r=(t:Int)/\ok=true/\H=h/\N0=m/\C=c/\n=f)->zbf s a date Y M D w (.returned (.tuple #[.agg #[.bool date,.bool ok,.bool false,.int .i64 Y,.int .i64 M,.int .i64 D,.int .i64 H,.int .i64 N0,.int .i64 C,.int .i64 n,.int .i64 0,.bool false],.int .i64 r])) w':=by
  intro r ok n w' hb h;refine⟨⟨date,ok,false,Y,M,D,H,N0,C,n,0,false⟩,r,rfl,hb,?_⟩;rcases h with⟨h1,h2⟩|⟨h,m,c,f,t,h1,h2,h3,rfl,rfl,rfl,rfl⟩
  ·rw[h1];exact h2
  ·rw[h1];exact⟨h2,by rw[h3]⟩
 have HGO:=hid go;clear go;rcases hc with c1|⟨c1,c2⟩|⟨c1,c2,c3⟩|⟨c1,c2,c3,rfl⟩|⟨c1,c2,c3,rfl,rfl⟩|⟨c1,c2,c3,rfl,rfl⟩
 case inr.inr.inr.inr.inr=>
  have HF:Hid (∃h m c:Nat,numAt s a 2=some h/\numAt s (a+3) 2=some m/\numAt s (a+6) 2=some c/\H=h/\N0=m/\C=c):=hid (by
   obtain⟨y,h1,h2⟩:=HSH.out c1;obtain⟨m,h3,h4⟩:=HSM.out c2;obtain⟨d,h5,h6⟩:=HSC.out c3;exact⟨y,m,d,h1,h3,h5,h2,h4,h6⟩)
  clear HSH HSM HSC HNH HNM HNC;go_enter func135,ntmps135;go_wp2_with fail;refine(HT1.out _).mono ?_;rintro e w1 ⟨rfl,rfl⟩;go_wp2_with fail;refine(HT2.out _).mono ?_;rintro e w1 ⟨rfl,rfl⟩;go_wp2_with fail;refine(HT3.out _).mono ?_;rintro e w1 ⟨rfl,rfl⟩;go_wp2_with fail;refine(HI1.out _).mono ?_;rintro e w1 ⟨rfl,rfl⟩;go_wp2_with fail;refine(HI2.out _).mono ?_;rintro e w1 ⟨rfl,rfl⟩;go_upto_region 5 with fail;clear HT1 HT2 HT3 HI1 HI2;obtain⟨gb,hgb⟩:=ex w.heap.size
  obtain⟨wy,hwy⟩:=ex ((w.alloc (.cells #[.bool date,.bool true,.bool false,.int .i64 Y,.int .i64 M,.int .i64 D,.int .i64 H,.int .i64 N0,.int .i64 C,.int .i64 0,.int .i64 0,.bool false] 111)).alloc (.cells #[.bool false,.bool false,.bool false,.int .i64 0,.int .i64 0,.int .i64 0,.int .i64 0,.int .i64 0,.int .i64 0,.int .i64 0,.int .i64 0,.bool false] 111))
  have HB:Hid (Blk wy gb 111 (T12 date true false Y M D H N0 C 0 0 false)/\Blk wy (gb+1) 111 (T12 false false false 0 0 0 0 0 0 0 0 false)/\Below gb w wy):=hid (by
   rw[<-hwy,<-hgb];refine⟨(Blk.new _ _ _).alloc _,?_,zbu _ _⟩;have:=Blk.new (w.alloc (.cells #[.bool date,.bool true,.bool false,.int .i64 Y,.int .i64 M,.int .i64 D,.int .i64 H,.int .i64 N0,.int .i64 C,.int .i64 0,.int .i64 0,.bool false] 111)) 111 (T12 false false false 0 0 0 0 0 0 0 0 false);rwa[World.size_alloc]at this)
  have HGB:=hid hgb;rw[hwy];(try rw[hgb]);clear hwy hgb;go_cut [1] (fun s1 wx=>s1=.int .i64 ((a:Int)+8)/\wx=wy)
  case first=>
   go_wp2;go_meet;exact⟨rfl,rfl⟩
  case rest=>
   obtain⟨rfl,rfl⟩:=hcut;refine(‹∀(a:Act) (w_1:World),Code.wp prog _ _ a w_1->_›) _ _ ?_;exact zqk s hl a ha date Y M D H N0 C z w _ gb HGO HF HP HI3 HGB HB
 all_goals
  have HF:Hid (clockAt s a=none):=hid (by
   unfold clockAt
   first
    | (rw[HNH.out c1])
    | (obtain⟨y,h1,_⟩:=HSH.out c1;rw[h1,HNM.out c2])
    | (obtain⟨y,h1,_⟩:=HSH.out c1;obtain⟨m,h3,_⟩:=HSM.out c2;rw[h1,h3,HNC.out c3])
    | (obtain⟨y,h1,_⟩:=HSH.out c1;obtain⟨m,h3,_⟩:=HSM.out c2;obtain⟨d,h5,_⟩:=HSC.out c3;rw[h1,h3,h5,HP.out.1,HP.out.2.1];rfl)
    | (obtain⟨y,h1,_⟩:=HSH.out c1;obtain⟨m,h3,_⟩:=HSM.out c2;obtain⟨d,h5,_⟩:=HSC.out c3;rw[h1,h3,h5,HP.out.1];rfl))
  go_enter func135,ntmps135;go_wp2_with fail;refine(HT1.out _).mono ?_;rintro e w1 ⟨rfl,rfl⟩;go_wp2_with fail;refine(HT2.out _).mono ?_;rintro e w1 ⟨rfl,rfl⟩;go_wp2_with fail;refine(HT3.out _).mono ?_;rintro e w1 ⟨rfl,rfl⟩;go_wp2_with fail;(try (refine(HI1.out _).mono ?_;rintro e w1 ⟨rfl,rfl⟩;go_wp2_with fail));(try (refine(HI2.out _).mono ?_;rintro e w1 ⟨rfl,rfl⟩;go_wp2_with fail));refine bodyPost_ret (v:=.tuple #[.agg #[.bool date,.bool false,.bool false,.int .i64 Y,.int .i64 M,.int .i64 D,.int .i64 H,.int .i64 N0,.int .i64 C,.int .i64 0,.int .i64 0,.bool false],.int .i64 (-1)]) (by rw[results_cell_tmp rfl];go_simp) rfl ?_;exact HGO.out _ _ _ _ (zbu _ _) (.inl ⟨HF.out,rfl⟩)
def rngB (date:Bool) (y m d h mi c:Int) (late:Bool):Bool:=(!date || (decide (1<=m) && decide (m<=12) && decide (1<=d) && decide (d<=Cal.dim y m))) && !late && decide (h<=23) && decide (mi<=59) && decide (c<=59)
theorem zeg (date time zone:Bool) (y m d h mi c nanos off:Int) (late:Bool) (w:World):
 Calls prog 104 #[.agg #[.bool date,.bool time,.bool zone,.int .i64 y,.int .i64 m,.int .i64 d,.int .i64 h,.int .i64 mi,.int .i64 c,.int .i64 nanos,.int .i64 off,.bool late]] w fun e w'=>e=.returned (.bool (rngB date y m d h mi c late))/\Below w.heap.size w w':=by
 have hc:date=false\/(date=true/\m<1)\/(date=true/\¬m<1/\12<m)\/(date=true/\¬m<1/\¬12<m/\d<1)\/(date=true/\¬m<1/\¬12<m/\¬d<1/\Cal.dim y m<d)\/(date=true/\¬m<1/\¬12<m/\¬d<1/\¬Cal.dim y m<d):=by
  cases date<;>simp<;>omega
 obtain⟨q,hq⟩:=ex (Cal.dim y m)
 have HQ:=hid hq;rw[hq]at hc;clear hq;have HMO:Hid (1<=m->m<=12->∀W,Calls prog 138 #[.int .i64 y,.int .i64 m] W fun e w'=>e=.returned (.int .i64 q)/\W=w'):=hid (fun h1 h2 W=>by rw[<-HQ.out];exact zd4 y m h1 h2 W);obtain⟨r,hr⟩:=ex (rngB date y m d h mi c late)
 have HR:=hid hr;rw[hr];clear hr;rcases hc with rfl|⟨rfl,h1⟩|⟨rfl,h1,h2⟩|⟨rfl,h1,h2,h3⟩|⟨rfl,h1,h2,h3,h4⟩|⟨rfl,h1,h2,h3,h4⟩
 ·have HLM:Hid (∀W,1<=m->m<=12->Calls prog 138 #[.int .i64 y,.int .i64 m] W fun e w'=>e=.returned (.int .i64 q)/\W=w'):=hid (fun W a b=>HMO.out a b W);go_enter func104,ntmps104;go_upto_region 1 with fail;obtain⟨gb,hgb⟩:=ex w.heap.size
  obtain⟨w0,hw0⟩:∃w0,w0=w.alloc (.cells #[.bool false,.bool time,.bool zone,.int .i64 y,.int .i64 m,.int .i64 d,.int .i64 h,.int .i64 mi,.int .i64 c,.int .i64 nanos,.int .i64 off,.bool late] 111):=⟨_,rfl⟩
  have HB0:Hid (Blk w0 gb 111 (T12 false time zone y m d h mi c nanos off late)/\Below gb w w0):=hid (by rw[hw0,<-hgb];exact⟨Blk.new _ _ _,(Below.refl _ _).alloc (Nat.le_refl _) _⟩);have HGB:=hid hgb;(try rw[<-hw0]);(try rw[hgb]);clear hw0 hgb;have p0:∀W:WB w0.heap.size w0,W.w.cell? ⟨gb,0,none⟩=some (.bool false):=fun W=>(W.h.cell (p:=⟨gb,0,none⟩) HB0.out.1.lt).trans (HB0.out.1.cell 0)
  have p3:∀W:WB w0.heap.size w0,W.w.cell? ⟨gb,3,none⟩=some (.int .i64 y):=fun W=>(W.h.cell (p:=⟨gb,3,none⟩) HB0.out.1.lt).trans (HB0.out.1.cell 3)
  have p4:∀W:WB w0.heap.size w0,W.w.cell? ⟨gb,4,none⟩=some (.int .i64 m):=fun W=>(W.h.cell (p:=⟨gb,4,none⟩) HB0.out.1.lt).trans (HB0.out.1.cell 4)
  have p5:∀W:WB w0.heap.size w0,W.w.cell? ⟨gb,5,none⟩=some (.int .i64 d):=fun W=>(W.h.cell (p:=⟨gb,5,none⟩) HB0.out.1.lt).trans (HB0.out.1.cell 5)
  refine zaa w0.heap.size w0 (by kernel_rfl) (by kernel_rfl) (Below.refl _ _) ?_
  iterate 27 (try go_big_quiet_step ((with_reducible refine Calls.grow ((HLM.out _ (by omega) (by omega)).mono (fun _ _ ⟨e1,e2⟩=>⟨e1,e2▸WB.h _⟩)))))
  refine wpQuiet_nil ?_;rintro _ ⟨wz,rfl⟩;clear p0 p3 p4 p5;have hbz:=HB0.out.1.below wz.h HB0.out.1.lt;have q6:wz.w.cell? ⟨gb,6,none⟩=some (.int .i64 h):=hbz.cell 6;have q7:wz.w.cell? ⟨gb,7,none⟩=some (.int .i64 mi):=hbz.cell 7;have q8:wz.w.cell? ⟨gb,8,none⟩=some (.int .i64 c):=hbz.cell 8;have q11:wz.w.cell? ⟨gb,11,none⟩=some (.bool late):=hbz.cell 11;clear hbz;cases late
  all_goals go_wp2_with fail
  all_goals go_ret
  all_goals
   rw[HGB.out];refine⟨congrArg (fun b=>Ending.returned (.bool b)) ?_,HB0.out.2.trans (wz.h.mono (Nat.le_of_lt HB0.out.1.lt))⟩;rw[<-HR.out];unfold rngB;rw[HQ.out]
   first| (simp[*];done)| (simp;omega)
 all_goals
  have HLM:Hid (∀W,1<=m->m<=12->Calls prog 138 #[.int .i64 y,.int .i64 m] W fun e w'=>e=.returned (.int .i64 q)/\W=w'):=hid (fun W a b=>HMO.out a b W);go_enter func104,ntmps104;go_upto_region 1 with fail;obtain⟨gb,hgb⟩:=ex w.heap.size
  obtain⟨w0,hw0⟩:∃w0,w0=w.alloc (.cells #[.bool true,.bool time,.bool zone,.int .i64 y,.int .i64 m,.int .i64 d,.int .i64 h,.int .i64 mi,.int .i64 c,.int .i64 nanos,.int .i64 off,.bool late] 111):=⟨_,rfl⟩
  have HB0:Hid (Blk w0 gb 111 (T12 true time zone y m d h mi c nanos off late)/\Below gb w w0):=hid (by rw[hw0,<-hgb];exact⟨Blk.new _ _ _,(Below.refl _ _).alloc (Nat.le_refl _) _⟩);have HGB:=hid hgb;(try rw[<-hw0]);(try rw[hgb]);clear hw0 hgb;have p0:∀W:WB w0.heap.size w0,W.w.cell? ⟨gb,0,none⟩=some (.bool true):=fun W=>(W.h.cell (p:=⟨gb,0,none⟩) HB0.out.1.lt).trans (HB0.out.1.cell 0)
  have p3:∀W:WB w0.heap.size w0,W.w.cell? ⟨gb,3,none⟩=some (.int .i64 y):=fun W=>(W.h.cell (p:=⟨gb,3,none⟩) HB0.out.1.lt).trans (HB0.out.1.cell 3)
  have p4:∀W:WB w0.heap.size w0,W.w.cell? ⟨gb,4,none⟩=some (.int .i64 m):=fun W=>(W.h.cell (p:=⟨gb,4,none⟩) HB0.out.1.lt).trans (HB0.out.1.cell 4)
  have p5:∀W:WB w0.heap.size w0,W.w.cell? ⟨gb,5,none⟩=some (.int .i64 d):=fun W=>(W.h.cell (p:=⟨gb,5,none⟩) HB0.out.1.lt).trans (HB0.out.1.cell 5)
  refine zaa w0.heap.size w0 (by kernel_rfl) (by kernel_rfl) (Below.refl _ _) ?_
  iterate 27 (try go_big_quiet_step ((with_reducible refine Calls.grow ((HLM.out _ (by omega) (by omega)).mono (fun _ _ ⟨e1,e2⟩=>⟨e1,e2▸WB.h _⟩)))))
  refine wpQuiet_nil ?_;rintro _ ⟨wz,rfl⟩;clear p0 p3 p4 p5;have hbz:=HB0.out.1.below wz.h HB0.out.1.lt;have q6:wz.w.cell? ⟨gb,6,none⟩=some (.int .i64 h):=hbz.cell 6;have q7:wz.w.cell? ⟨gb,7,none⟩=some (.int .i64 mi):=hbz.cell 7;have q8:wz.w.cell? ⟨gb,8,none⟩=some (.int .i64 c):=hbz.cell 8;have q11:wz.w.cell? ⟨gb,11,none⟩=some (.bool late):=hbz.cell 11;clear hbz;cases late
  all_goals go_wp2_with fail
  all_goals go_ret
  all_goals
   rw[HGB.out];refine⟨congrArg (fun b=>Ending.returned (.bool b)) ?_,HB0.out.2.trans (wz.h.mono (Nat.le_of_lt HB0.out.1.lt))⟩;rw[<-HR.out];unfold rngB;rw[HQ.out]
   first| (simp[*];done)| (simp;omega)
end Go.Proofs.YtoigpackhninoaaGreatDoor

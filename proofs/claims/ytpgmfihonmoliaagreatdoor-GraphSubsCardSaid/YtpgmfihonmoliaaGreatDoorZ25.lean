import Derived.Test.YtpgmfihonmoliaaGreatDoorGrInsR4T
namespace Go.Proofs.YtpgmfihonmoliaaGreatDoor
open Gr
open _root_.Go.Proofs.Tryz
set_option maxRecDepth 100000
set_option maxHeartbeats 16000000
open Go.RowKit
theorem zp9 (s:Gr.Str) (hl:s.length<=1073741823) (a:Nat) (ha:a<=1073741824) (date:Bool) (Y M D H N0 C:Int) (z:Bool) (w wy:World) (gb:Nat)
 (HGO:Hid (∀(r:Int) (ok:Bool) (n:Int) (w':World),Below w.heap.size w w'->(clockAt s a=none/\r=-1\/∃h m c f t:Nat,clockAt s a=some ⟨h,m,c,f,t⟩/\r=(t:Int)/\ok=true/\H=h/\N0=m/\C=c/\n=f)->zbf s a date Y M D w (.returned (.tuple #[.agg #[.bool date,.bool ok,.bool false,.int .i64 Y,.int .i64 M,.int .i64 D,.int .i64 H,.int .i64 N0,.int .i64 C,.int .i64 n,.int .i64 0,.bool false],.int .i64 r])) w'))
 (HF:Hid (∃h m c:Nat,numAt s a 2=some h/\numAt s (a+3) 2=some m/\numAt s (a+6) 2=some c/\H=h/\N0=m/\C=c)) (HP:Hid (isAt s (a+2) 58=true/\isAt s (a+5) 58=true/\isAt s (a+8) 46=z))
 (HI3:Hid (∀W,Calls prog 164 #[.string ⟨s.toArray⟩,.int .i64 ((a:Int)+8),.int .u8 46] W fun e w'=>e=.returned (.bool z)/\W=w'))
 (HGB:Hid (w.heap.size=gb)) (HB:Hid (Blk wy gb 147 (T12 date true false Y M D H N0 C 0 0 false)/\Blk wy (gb+1) 147 (T12 false false false 0 0 0 0 0 0 0 0 false)/\Below gb w wy))
 {u2 u3 u4 u7 u8 u9 u10 u11 u12 u13 u14 u15 u16 u17 u18 u19 u20 u21 u22 u23 u24 u25 u26 u27 u28 u29 u30 u31 u32 u33 u34 u35 u36 u37 u38 u39 u40 u41 u42 u43 u44 u45 u46 u47 u48 u49 u50 u51 u52 u53 u54 u55 u56 u57 u58 u59 u60 u61 u62 u63 u64 u65 u66 u67 u68 u69 u70 u71 u72 u73 u74 u75 u76 u77 u78 u79 u80 u81 u82 u83 u84 u85 u86 u87 u88 u89 u90 u91 u92 u93 u94 u95 u96 u97 u98 u99 u100 u101 u102 u103 u104 u105 u106 u107 u108 u109 u110 u111 u112 u113 u114 u115:Value}:
 Code.wp prog (tl 5 (f163.body.getD .skip)) (bodyPost prog f163 (zbf s a date Y M D w)) {tmps:=List.toArray (.string ⟨s.toArray⟩::.int .i64 ((a:Int)+8)::u2::u3::u4::.pointer (some ⟨gb,0,none⟩)::.pointer (some ⟨gb+1,0,none⟩)::u7::u8::u9::u10::u11::u12::u13::u14::u15::u16::u17::u18::u19::u20::u21::u22::u23::u24::u25::u26::u27::u28::u29::u30::u31::u32::u33::u34::u35::u36::u37::u38::u39::u40::u41::u42::u43::u44::u45::u46::u47::u48::u49::u50::u51::u52::u53::u54::u55::u56::u57::u58::u59::u60::u61::u62::u63::u64::u65::u66::u67::u68::u69::u70::u71::u72::u73::u74::u75::u76::u77::u78::u79::u80::u81::u82::u83::u84::u85::u86::u87::u88::u89::u90::u91::u92::u93::u94::u95::u96::u97::u98::u99::u100::u101::u102::u103::u104::u105::u106::u107::u108::u109::u110::u111::u112::u113::u114::u115::[]),defers:=[]} wy:=by
 generalize hc0:tl 5 (f163.body.getD .skip)=c0;simp only[tl,f163,Option.getD_some]at hc0;subst hc0;go_upto_region 6 with fail;go_cut [58] (fun s58 u=>s58=.bool (!z)/\u=wy)
 case first=>
  go_wp2_with fail;refine(HI3.out _).mono ?_;rintro e w1 ⟨rfl,rfl⟩;go_wp2;go_meet;exact⟨rfl,rfl⟩
 case rest=>
 obtain⟨rfl,rfl⟩:=hcut;refine(‹∀(a:Act) (w_1:World),Code.wp prog _ _ a w_1->_›) _ _ ?_;go_cut [] (fun o=>z=true/\o=wc)
 case first=>
  obtain⟨q0,q1,q2,q3,q4,q5,q6,q7,q8,q9,q10,q11⟩:=zah HB.out.1;have xb:∀j,wc.cell? ⟨gb+1,j,none⟩=(#[.bool false,.bool false,.bool false,.int .i64 0,.int .i64 0,.int .i64 0,.int .i64 0,.int .i64 0,.int .i64 0,.int .i64 0,.int .i64 0,.bool false]:Array Value)[j]? :=fun j=>HB.out.2.1.cell j
  have xf:∀j,wc.frozen? ⟨gb+1,j,none⟩=false:=HB.out.2.1.frozen;cases z with
  |false=>
   go_wp2_with fail;have b:Hid (Blk ((((((((((((wc.setCell ⟨gb+1,0,none⟩ (.bool date)).setCell ⟨gb+1,1,none⟩ (.bool true)).setCell ⟨gb+1,2,none⟩ (.bool false)).setCell ⟨gb+1,3,none⟩ (.int .i64 Y)).setCell ⟨gb+1,4,none⟩ (.int .i64 M)).setCell ⟨gb+1,5,none⟩ (.int .i64 D)).setCell ⟨gb+1,6,none⟩ (.int .i64 H)).setCell ⟨gb+1,7,none⟩ (.int .i64 N0)).setCell ⟨gb+1,8,none⟩ (.int .i64 C)).setCell ⟨gb+1,9,none⟩ (.int .i64 0)).setCell ⟨gb+1,10,none⟩ (.int .i64 0)).setCell ⟨gb+1,11,none⟩ (.bool false)) (gb+1) 147 (T12 date true false Y M D H N0 C 0 0 false)):=Lib.hid (zbc HB.out.2.1);have g:Hid (Below gb w ((((((((((((wc.setCell ⟨gb+1,0,none⟩ (.bool date)).setCell ⟨gb+1,1,none⟩ (.bool true)).setCell ⟨gb+1,2,none⟩ (.bool false)).setCell ⟨gb+1,3,none⟩ (.int .i64 Y)).setCell ⟨gb+1,4,none⟩ (.int .i64 M)).setCell ⟨gb+1,5,none⟩ (.int .i64 D)).setCell ⟨gb+1,6,none⟩ (.int .i64 H)).setCell ⟨gb+1,7,none⟩ (.int .i64 N0)).setCell ⟨gb+1,8,none⟩ (.int .i64 C)).setCell ⟨gb+1,9,none⟩ (.int .i64 0)).setCell ⟨gb+1,10,none⟩ (.int .i64 0)).setCell ⟨gb+1,11,none⟩ (.bool false))):=Lib.hid (zcc HB.out.2.2 (Nat.le_succ gb));obtain⟨e0,e1,e2,e3,e4,e5,e6,e7,e8,e9,e10,e11⟩:=zah b.out;refine bodyPost_ret (v:=.tuple #[.agg #[.bool date,.bool true,.bool false,.int .i64 Y,.int .i64 M,.int .i64 D,.int .i64 H,.int .i64 N0,.int .i64 C,.int .i64 0,.int .i64 0,.bool false],.int .i64 ((a:Int)+8)]) (by rw[results_cell_tmp rfl];go_simp) rfl ?_;refine HGO.out _ _ _ _ (by rw[HGB.out];exact g.out) (.inr ?_);obtain⟨h,m,c,q,p,k,i,l,x⟩:=HF.out;exact⟨h,m,c,0,a+8,zjz q p k HP.out.1 HP.out.2.1 HP.out.2.2,by omega,rfl,i,l,x,rfl⟩
  |true=>
   go_wp2;go_meet
   first|exact⟨rfl,rfl⟩|exact⟨trivial,rfl⟩
 case rest=>
  obtain⟨rfl,rfl⟩:=hcut;have d:Hid (a+9<=s.length):=Lib.hid (by
   have:=HP.out.2.2;unfold isAt at this;rcases Nat.lt_or_ge (a+8) s.length with h|h
   .omega
   .rw[List.getElem?_eq_none h]at this;cases this)
  refine(‹∀(a:Act) (w_1:World),Code.wp prog _ _ a w_1->_›) _ _ ?_;exact zmw s hl a ha date Y M D H N0 C w _ gb HGO HF HP d HGB HB
open _root_.Go.Lib (hid)
theorem zf5 (s:Gr.Str) (hl:s.length<=1073741823) (a:Nat) (i:Int) (hi:i=(a:Int)) (ha:a<=1073741824) (date:Bool) (Y M D:Int) (w:World):
 Calls prog 163 #[.string ⟨s.toArray⟩,.int .i64 i,.agg #[.bool date,.bool false,.bool false,.int .i64 Y,.int .i64 M,.int .i64 D,.int .i64 0,.int .i64 0,.int .i64 0,.int .i64 0,.int .i64 0,.bool false]] w (zbf s a date Y M D w):=by
 subst hi;have G:=hid (fun W=>zcm s hl a 2 (a:Int) 2 rfl rfl (by omega) (by omega) W);have E:=hid (fun W=>zcm s hl (a+3) 2 ((a:Int)+3) 2 (by omega) rfl (by omega) (by omega) W);have A:=hid (fun W=>zcm s hl (a+6) 2 ((a:Int)+6) 2 (by omega) rfl (by omega) (by omega) W);have u:=hid (fun W=>zcn s hl (a+2) ((a:Int)+2) (by omega) 58 58 rfl W);have B:=hid (fun W=>zcn s hl (a+5) ((a:Int)+5) (by omega) 58 58 rfl W);have Q:=hid (fun W=>zcn s hl (a+8) ((a:Int)+8) (by omega) 46 46 rfl W);have b:=hid (fun h=> @zcp s a 2 h);have k:=hid (fun h=> @zcp s (a+3) 2 h);have l:=hid (fun h=> @zcp s (a+6) 2 h);have K:=hid (fun h=> @zcq s a 2 h);have L:=hid (fun h=> @zcq s (a+3) 2 h);have J:=hid (fun h=> @zcq s (a+6) 2 h);have bH:=zin s a 2 (by omega);have bM:=zin s (a+3) 2 (by omega);have bC:=zin s (a+6) 2 (by omega);obtain⟨H,hH⟩:=ex (tw s a 2)
 obtain⟨g,hN⟩:=ex (tw s (a+3) 2)
 obtain⟨C,hC⟩:=ex (tw s (a+6) 2)
 obtain⟨p,V⟩:=ex (isAt s (a+2) 58)
 obtain⟨q,Z⟩:=ex (isAt s (a+5) 58)
 obtain⟨z,hz⟩:=ex (isAt s (a+8) 46)
 have S:Hid (isAt s (a+2) 58=p/\isAt s (a+5) 58=q/\isAt s (a+8) 46=z):=hid ⟨V,Z,hz⟩;rw[hH]at G b K bH;rw[hN]at E k L bM;rw[hC]at A l J bC;rw[V]at u;rw[Z]at B;rw[hz]at Q;clear hH hN hC V Z hz;have hc:H<0\/(¬H<0/\g<0)\/(¬H<0/\¬g<0/\C<0)\/(¬H<0/\¬g<0/\¬C<0/\p=false)\/(¬H<0/\¬g<0/\¬C<0/\p=true/\q=false)\/(¬H<0/\¬g<0/\¬C<0/\p=true/\q=true):=by
  cases p<;>cases q<;>simp<;>omega
 have go:∀(r:Int) (ok:Bool) (n:Int) (w':World),Below w.heap.size w w'->(clockAt s a=none/\r=-1\/∃h m c f t:Nat,clockAt s a=some ⟨h,m,c,f,t⟩/\r=(t:Int)/\ok=true/\H=h/\g=m/\C=c/\n=f)->zbf s a date Y M D w (.returned (.tuple #[.agg #[.bool date,.bool ok,.bool false,.int .i64 Y,.int .i64 M,.int .i64 D,.int .i64 H,.int .i64 g,.int .i64 C,.int .i64 n,.int .i64 0,.bool false],.int .i64 r])) w':=by
  intro r ok n w' hb h;refine⟨⟨date,ok,false,Y,M,D,H,g,C,n,0,false⟩,r,rfl,hb,?_⟩;rcases h with⟨j,O⟩|⟨h,m,c,f,t,j,O,x,rfl,rfl,rfl,rfl⟩
  .rw[j];exact O
  .rw[j];exact⟨O,by rw[x]⟩
 have P:=hid go;clear go;rcases hc with c1|⟨c1,c2⟩|⟨c1,c2,c3⟩|⟨c1,c2,c3,rfl⟩|⟨c1,c2,c3,rfl,rfl⟩|⟨c1,c2,c3,rfl,rfl⟩
 case inr.inr.inr.inr.inr=>
  have X:Hid (∃h m c:Nat,numAt s a 2=some h/\numAt s (a+3) 2=some m/\numAt s (a+6) 2=some c/\H=h/\g=m/\C=c):=hid (by
   obtain⟨y,j,O⟩:=b.out c1;obtain⟨m,x,h4⟩:=k.out c2;obtain⟨d,N,h6⟩:=l.out c3;exact⟨y,m,d,j,x,N,O,h4,h6⟩)
  clear b k l K L J;go_enter func163,ntmps163;go_wp2_with fail;refine(G.out _).mono ?_;rintro e o ⟨rfl,rfl⟩;go_wp2_with fail;refine(E.out _).mono ?_;rintro e o ⟨rfl,rfl⟩;go_wp2_with fail;refine(A.out _).mono ?_;rintro e o ⟨rfl,rfl⟩;go_wp2_with fail;refine(u.out _).mono ?_;rintro e o ⟨rfl,rfl⟩;go_wp2_with fail;refine(B.out _).mono ?_;rintro e o ⟨rfl,rfl⟩;go_upto_region 5 with fail;clear G E A u B;obtain⟨T,F⟩:=ex w.heap.size
  obtain⟨R,I⟩:=ex ((w.alloc (.cells #[.bool date,.bool true,.bool false,.int .i64 Y,.int .i64 M,.int .i64 D,.int .i64 H,.int .i64 g,.int .i64 C,.int .i64 0,.int .i64 0,.bool false] 147)).alloc (.cells #[.bool false,.bool false,.bool false,.int .i64 0,.int .i64 0,.int .i64 0,.int .i64 0,.int .i64 0,.int .i64 0,.int .i64 0,.int .i64 0,.bool false] 147))
  have HB:Hid (Blk R T 147 (T12 date true false Y M D H g C 0 0 false)/\Blk R (T+1) 147 (T12 false false false 0 0 0 0 0 0 0 0 false)/\Below T w R):=hid (by
   rw[<-I,<-F];refine⟨(Blk.new _ _ _).alloc _,?_,zbu _ _⟩;have:=Blk.new (w.alloc (.cells #[.bool date,.bool true,.bool false,.int .i64 Y,.int .i64 M,.int .i64 D,.int .i64 H,.int .i64 g,.int .i64 C,.int .i64 0,.int .i64 0,.bool false] 147)) 147 (T12 false false false 0 0 0 0 0 0 0 0 false);rwa[World.size_alloc]at this)
  have U:=hid F;rw[I];(try rw[F]);clear I F;go_cut [1] (fun s1 wx=>s1=.int .i64 ((a:Int)+8)/\wx=R)
  case first=>
   go_wp2;go_meet;exact⟨rfl,rfl⟩
  case rest=>
   obtain⟨rfl,rfl⟩:=hcut;refine(‹∀(a:Act) (w_1:World),Code.wp prog _ _ a w_1->_›) _ _ ?_;exact zp9 s hl a ha date Y M D H g C z w _ T P X S Q U HB
 all_goals
  have X:Hid (clockAt s a=none):=hid (by
   unfold clockAt
   first
    | (rw[K.out c1])
    | (obtain⟨y,j,_⟩:=b.out c1;rw[j,L.out c2])
    | (obtain⟨y,j,_⟩:=b.out c1;obtain⟨m,x,_⟩:=k.out c2;rw[j,x,J.out c3])
    | (obtain⟨y,j,_⟩:=b.out c1;obtain⟨m,x,_⟩:=k.out c2;obtain⟨d,N,_⟩:=l.out c3;rw[j,x,N,S.out.1,S.out.2.1];rfl)
    | (obtain⟨y,j,_⟩:=b.out c1;obtain⟨m,x,_⟩:=k.out c2;obtain⟨d,N,_⟩:=l.out c3;rw[j,x,N,S.out.1];rfl))
  go_enter func163,ntmps163;go_wp2_with fail;refine(G.out _).mono ?_;rintro e o ⟨rfl,rfl⟩;go_wp2_with fail;refine(E.out _).mono ?_;rintro e o ⟨rfl,rfl⟩;go_wp2_with fail;refine(A.out _).mono ?_;rintro e o ⟨rfl,rfl⟩;go_wp2_with fail;(try (refine(u.out _).mono ?_;rintro e o ⟨rfl,rfl⟩;go_wp2_with fail));(try (refine(B.out _).mono ?_;rintro e o ⟨rfl,rfl⟩;go_wp2_with fail));refine bodyPost_ret (v:=.tuple #[.agg #[.bool date,.bool false,.bool false,.int .i64 Y,.int .i64 M,.int .i64 D,.int .i64 H,.int .i64 g,.int .i64 C,.int .i64 0,.int .i64 0,.bool false],.int .i64 (-1)]) (by rw[results_cell_tmp rfl];go_simp) rfl ?_;exact P.out _ _ _ _ (zbu _ _) (.inl ⟨X.out,rfl⟩)
end Go.Proofs.YtpgmfihonmoliaaGreatDoor

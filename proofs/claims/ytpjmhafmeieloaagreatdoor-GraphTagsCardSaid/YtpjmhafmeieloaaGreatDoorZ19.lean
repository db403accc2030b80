import Derived.Test.YtpjmhafmeieloaaGreatDoorZ18
import Derived.Test.YtpjmhafmeieloaaGreatDoorGrInsR12
namespace Go.Proofs.YtpjmhafmeieloaaGreatDoor
open Gr
open _root_.Go.Proofs.Tryz
open _root_.Go.Lib (hid)
set_option maxRecDepth 100000
set_option maxHeartbeats 16000000
open Go.RowKit
theorem zqp {s:Gr.Str} {sh:Nat} {f:Nat->Nat} {p h m c:Nat} (k:ClkIs s p h m c):(clockAt s p=none/\pointO s sh f (p+8)=none)\/∃x:Gr.Ck,clockAt s p=some x/\x.h=h/\x.m=m/\x.s=c/\pointO s sh f (p+8)=finO s sh f x.nanos x.stop:=by
 cases hd:isAt s (p+8) 46 with
 |false=>exact .inr ⟨_,zqm k hd,rfl,rfl,rfl,zlh hd⟩
 |true=>
  rw[zwl k hd];unfold pointO;rw[if_pos hd,show p+8+1=p+9 from rfl];by_cases hc:((s.drop (p+9)).takeWhile Gr.dig).length=0\/9<((s.drop (p+9)).takeWhile Gr.dig).length
  .rw[if_pos hc,if_pos hc];exact .inl ⟨rfl,rfl⟩
  .rw[if_neg hc,if_neg hc];exact .inr ⟨_,rfl,rfl,rfl,rfl,rfl⟩
theorem RMem.sh_ {s:Gr.Str} {w:World} {sb rb mb ab fb sh:Nat} {f:Nat->Nat} {nn z p:Nat} {wx:World} (h:RMem s w sb rb mb ab fb sh f nn z p wx) (q:Nat):RMem s w sb rb mb ab fb q f nn z p (wx.setCell ⟨mb,0,none⟩ (.int .i64 (q:Int))):=
 have c:KM mb ab wx (wx.setCell ⟨mb,0,none⟩ (.int .i64 (q:Int))):=KM.ofM (Kept1.set _ _)
 ⟨h.b.trans (c.below h.b.size h.nm h.na),h.n,h.nm,h.na,h.mr,c.blk h.s (h.s.ne_ h.m (by decide)) (h.s.ne_ h.a (by decide)),c.blk h.r h.mr.symm (h.r.ne_ h.a (by decide)),h.m.set_ 0 _,h.a.far (h.a.ne_ h.m (by decide)) _,c.blk h.f (h.f.ne_ h.m (by decide)) (h.f.ne_ h.a (by decide))⟩
structure ClockT (s:Gr.Str) (sh:Nat) (f:Nat->Nat) (p:Nat) (T:Option (Array Value)):Prop where
 no:clockAt s p=none->T=none
 yes:∀(k:Gr.Ck) (f':Nat->Nat),clockAt s p=some k->f' 3=k.h->f' 4=k.m->f' 5=k.s->(∀j,j<3\/6<=j->f' j=f j)->T=finO s (sh+2) f' k.nanos k.stop
theorem zth (s:Gr.Str) (hl:s.length<=1073741823) (w wx:World) (sb rb mb ab fb sh:Nat) (f:Nat->Nat) (p:Nat) (T:Option (Array Value)) (HM:Hid (RMem s w sb rb mb ab fb sh f 0 0 p wx)) (hp:p<=s.length) (hsh:sh<=1) (HT:Hid (ClockT s sh f p T/\f 6=0/\f 7=0)) {u3 u8 u9 u10 u11 u12 u13 u14 u15 u16 u17 u18 u19 u20 u21 u22 u23 u24 u25 u26 u27 u28 u29 u30 u31 u32 u33 u34 u35 u36 u37 u38 u39 u40 u41 u42 u43 u44 u45 u46 u47 u48 u49 u50 u51 u52 u53 u54 u55 u56 u57 u58 u59 u60 u61 u62 u63 u64 u65 u66 u67 u68 u69 u70 u71 u72 u73 u74 u75 u76 u77 u78 u79 u80 u81 u82 u83 u84 u85 u86 u87 u88 u89 u90 u91 u92 u93 u94 u95 u96 u97 u98 u99 u100 u101 u102 u103 u104 u105 u106 u107 u108 u109 u110 u111 u112 u113 u114 u115 u116 u117 u118 u119 u120 u121 u122 u123 u124 u125 u126 u127 u128 u129 u130 u131 u132 u133 u134 u135 u136 u137 u138 u139 u140 u141 u142 u143 u144 u145 u146 u147 u148 u149 u150 u151 u152 u153 u154:Value}:
 Code.wp prog (tl 6 (f54.body.getD .skip)) (bodyPost prog f54 (RPost T w)) {tmps:=List.toArray (.string ⟨s.toArray⟩::.pointer (some ⟨sb,0,none⟩)::.pointer (some ⟨rb,0,none⟩)::u3::.pointer (some ⟨mb,0,none⟩)::.pointer (some ⟨ab,0,none⟩)::.pointer (some ⟨fb,0,none⟩)::.func (.func 82) #[] #[.pointer (some ⟨ab,0,none⟩),.pointer (some ⟨sb,0,none⟩),.pointer (some ⟨fb,0,none⟩)]::u8::u9::u10::u11::u12::u13::u14::u15::u16::u17::u18::u19::u20::u21::u22::u23::u24::u25::u26::u27::u28::u29::u30::u31::u32::u33::u34::u35::u36::u37::u38::u39::u40::u41::u42::u43::u44::u45::u46::u47::u48::u49::u50::u51::u52::u53::u54::u55::u56::u57::u58::u59::u60::u61::u62::u63::u64::u65::u66::u67::u68::u69::u70::u71::u72::u73::u74::u75::u76::u77::u78::u79::u80::u81::u82::u83::u84::u85::u86::u87::u88::u89::u90::u91::u92::u93::u94::u95::u96::u97::u98::u99::u100::u101::u102::u103::u104::u105::u106::u107::u108::u109::u110::u111::u112::u113::u114::u115::u116::u117::u118::u119::u120::u121::u122::u123::u124::u125::u126::u127::u128::u129::u130::u131::u132::u133::u134::u135::u136::u137::u138::u139::u140::u141::u142::u143::u144::u145::u146::u147::u148::u149::u150::u151::u152::u153::u154::[]),defers:=[]} wx:=by
 generalize hc0:tl 6 (f54.body.getD .skip)=c0;simp only[tl,f54,Option.getD_some]at hc0;subst hc0;have t:=hid (zd5 s hl ab sb fb mb p 2 58 3 3 5 sh f 0 0 2 58 rfl rfl (by omega) (by omega) (by omega) (by omega) (by omega) (by omega) 4 rfl hp wx HM.out.a HM.out.s HM.out.f HM.out.m);go_upto_region 14 with fail;go_cut [48] (fun s48 z=>∃(f':Nat->Nat) (p':Nat),p'<=s.length/\Hid (RMem s w sb rb mb ab fb sh f' 0 0 p' z)/\(s48=.bool true/\Hid (T=none)\/s48=.bool false/\Hid (T=pointO s (sh+2) f' p'/\f' 6=0/\f' 7=0)))
 case first=>
  go_wp2_with fail;refine t.out.mono ?_;rintro e L ⟨B,f',h,⟨rfl,u,i,g,J⟩|⟨rfl,hno,p4,hp4,g⟩⟩
  .have l:Hid (RMem s w sb rb mb ab fb sh f' 0 0 (posAt p 2 3) L):=hid (HM.out.fld B h g);have F:Hid (T=pointO s (sh+2) f' (posAt p 2 3)/\f' 6=0/\f' 7=0):=hid (by
    have P:f' 6=0:=(i 6 (by omega)).trans HT.out.2.1;have Q:f' 7=0:=(i 7 (by omega)).trans HT.out.2.2;refine⟨?_,P,Q⟩;rw[show posAt p 2 3=p+8 from by simp[posAt]];rcases zqp (sh:=sh+2) (f:=f') (zwk u)with⟨D,C⟩|⟨x,D,C,N,O,M⟩
    .rw[C];exact HT.out.1.no D
    .rw[M];exact HT.out.1.yes x f' D C.symm N.symm O.symm (fun j hj=>i j (by omega)))
   clear B h g u i;go_wp2;go_meet;exact⟨f',_,J,l,.inr ⟨rfl,F⟩⟩
  .have l:Hid (RMem s w sb rb mb ab fb sh f' 0 0 p4 L):=hid (HM.out.fld B h g);have d:Hid (T=none):=hid (HT.out.1.no (zyj hno));clear B h g hno;go_wp2;go_meet;exact⟨f',_,hp4,l,.inl ⟨rfl,d⟩⟩
 case rest=>
 obtain⟨f',p',E,c,y⟩:=hcut;obtain⟨k,A⟩:=ex wc
 rw[A]at c ⊢;clear HM HT t A;go_upto_if 48 with fail;go_cut [] (fun z=>z=k/\Hid (T=pointO s (sh+2) f' p'/\f' 6=0/\f' 7=0))
 case first=>
  rcases y with⟨rfl,d⟩|⟨rfl,o⟩
  .skip
   obtain⟨m0,m1,m2,m3,m4,m5,m6,m7,m8,m9,m10⟩:=zaf c.out.m;obtain⟨x0,x1,x2,x3,x4,x5,x6,x7,x8,x9,x10⟩:=zaf c.out.r;have xf:∀j,k.frozen? ⟨rb,j,none⟩=false:=c.out.r.frozen;go_wp2_with fail;have H:Blk (((((((((((k.setCell ⟨rb,0,none⟩ (.int .i64 (sh:Int))).setCell ⟨rb,1,none⟩ (.int .i64 (f' 0:Int))).setCell ⟨rb,2,none⟩ (.int .i64 (f' 1:Int))).setCell ⟨rb,3,none⟩ (.int .i64 (f' 2:Int))).setCell ⟨rb,4,none⟩ (.int .i64 (f' 3:Int))).setCell ⟨rb,5,none⟩ (.int .i64 (f' 4:Int))).setCell ⟨rb,6,none⟩ (.int .i64 (f' 5:Int))).setCell ⟨rb,7,none⟩ (.int .i64 (f' 6:Int))).setCell ⟨rb,8,none⟩ (.int .i64 (f' 7:Int))).setCell ⟨rb,9,none⟩ (.int .i64 ((0:Nat):Int))).setCell ⟨rb,10,none⟩ (.int .u8 ((0:Nat):Int))) rb 94 (mC sh f' 0 (0:Nat)):=zba c.out.r;obtain⟨e0,D,C,N,O,M,e6,e7,e8,e9,e10⟩:=zaf H;have I:Below w.heap.size w (((((((((((k.setCell ⟨rb,0,none⟩ (.int .i64 (sh:Int))).setCell ⟨rb,1,none⟩ (.int .i64 (f' 0:Int))).setCell ⟨rb,2,none⟩ (.int .i64 (f' 1:Int))).setCell ⟨rb,3,none⟩ (.int .i64 (f' 2:Int))).setCell ⟨rb,4,none⟩ (.int .i64 (f' 3:Int))).setCell ⟨rb,5,none⟩ (.int .i64 (f' 4:Int))).setCell ⟨rb,6,none⟩ (.int .i64 (f' 5:Int))).setCell ⟨rb,7,none⟩ (.int .i64 (f' 6:Int))).setCell ⟨rb,8,none⟩ (.int .i64 (f' 7:Int))).setCell ⟨rb,9,none⟩ (.int .i64 ((0:Nat):Int))).setCell ⟨rb,10,none⟩ (.int .u8 ((0:Nat):Int))):=zcr c.out.b c.out.n;refine bodyPost_ret (v:=.tuple #[.agg #[.int .i64 (sh:Int),.int .i64 (f' 0:Int),.int .i64 (f' 1:Int),.int .i64 (f' 2:Int),.int .i64 (f' 3:Int),.int .i64 (f' 4:Int),.int .i64 (f' 5:Int),.int .i64 (f' 6:Int),.int .i64 (f' 7:Int),.int .i64 ((0:Nat):Int),.int .u8 ((0:Nat):Int)],.bool false]) (by rw[results_cell_tmp rfl];go_simp) rfl ?_;have K:T=none:=d.out;unfold RPost;rw[K];exact⟨I,sh,f',0,(0:Nat),rfl,fun x R=>by cases R⟩
  .go_wp2;go_meet;exact⟨rfl,o⟩
 case rest=>
 obtain⟨q,o⟩:=hcut;rw[q];clear y q;refine(‹∀(a:Act) (w_1:World),Code.wp prog _ _ a w_1->_›) _ _ ?_;have qM0:k.cell? ⟨mb,0,none⟩=some (.int .i64 (sh:Int)):=c.out.m.cell 0;have qMF:∀j,k.frozen? ⟨mb,j,none⟩=false:=c.out.m.frozen;go_upto_region 16 with fail;have G:Hid (∀v:Value,v=.int .i64 ((sh:Int)+2)->RMem s w sb rb mb ab fb (sh+2) f' 0 0 p' (World.setCell k ⟨mb,0,none⟩ v)):=hid (fun v S=>by
  rw[S,show(sh:Int)+2=((sh+2:Nat):Int)from by omega];exact c.out.sh_ _)
 go_cut [] (fun z=>Hid (RMem s w sb rb mb ab fb (sh+2) f' 0 0 p' z))
 case first=>
  go_wp2;go_meet;exact hid (G.out _ rfl)
 case rest=>
 refine(‹∀(a:Act) (w_1:World),Code.wp prog _ _ a w_1->_›) _ _ ?_;exact ztg s hl w _ sb rb mb ab fb (sh+2) f' p' T hcut E (by omega) o
def moF (x:Gr.Mo):Nat->Nat:=fun j=>match j with
 | 0=>x.y
 | 1=>x.m
 | 2=>x.d
 | 3=>x.h
 | 4=>x.mi
 | 5=>x.c
 | 6=>x.zh
 |_=>x.zm
def moSh (x:Gr.Mo):Nat:=(if x.date=true then 1 else 0)+(if x.time=true then 2 else 0)
def moC (x:Gr.Mo):Array Value:=mC (moSh x) (moF x) x.nanos x.z.toNat
def rdT (s:Gr.Str):Option (Array Value):=(Gr.rd s).map moC
theorem zhi {sh nn z:Nat} {f g:Nat->Nat} (h:∀j,j<8->f j=g j):mC sh f nn z=mC sh g nn z:=by
 simp[mC,h 0 (by omega),h 1 (by omega),h 2 (by omega),h 3 (by omega),h 4 (by omega),h 5 (by omega),h 6 (by omega),h 7 (by omega)]
theorem lt8 {P:Nat->Prop} (h:P 0/\P 1/\P 2/\P 3/\P 4/\P 5/\P 6/\P 7):∀j,j<8->P j:=by
 grind
theorem ziy {s:Gr.Str} (h:∀h2:2<s.length,(s[2]'h2).toNat=58):dateAt s=none:=by
 unfold dateAt;have:numAt s 0 4=none:=by
  rcases Nat.lt_or_ge s.length 4 with hl|hl
  .exact zdc s 0 4 (by omega)
  .exact zdp s 0 4 2 (by omega) (by omega) (by rw[(zd4 _ 58 (h (by omega))).1];decide)
 rw[this]
theorem zhj {s:Gr.Str} (hl:2<s.length) (h:(s[2]'hl).toNat≠58):clockAt s 0=none:=by
 unfold clockAt;split
 .rw[if_neg];rw[zbt (p:=0+2) hl rfl];simp;intro e;exact absurd e h
 .rfl
theorem zwo {s:Gr.Str} (hd:dateAt s=none):ClockT s 0 (fun _=>0) 0 (rdT s) where
 no h:=by unfold rdT Gr.rd;rw[hd];simp only;rw[h];rfl
 yes k f' h h3 h4 h5 hf:=by
  unfold rdT Gr.rd finO;rw[hd];simp only;rw[h];simp only;by_cases hs:k.stop=s.length
  .rw[if_pos hs,if_pos hs];show some _=some _
   congr 1
   exact zhi (lt8 ⟨(hf 0 (by omega)).symm,(hf 1 (by omega)).symm,(hf 2 (by omega)).symm,h3.symm,h4.symm,h5.symm,(hf 6 (by omega)).symm,(hf 7 (by omega)).symm⟩)
  .grind
theorem zwp {s:Gr.Str} {g:Nat->Nat} (hd:dateAt s=some (g 0,g 1,g 2)) (h10:s.length≠10) (hsep:(isAt s 10 84 || isAt s 10 32)=true) (h6:g 6=0) (h7:g 7=0):ClockT s 1 g 11 (rdT s) where
 no h:=by unfold rdT Gr.rd;rw[hd];simp only;rw[if_neg h10,if_pos hsep,h];rfl
 yes k f' h h3 h4 h5 hf:=by
  unfold rdT Gr.rd finO;rw[hd];simp only;rw[if_neg h10,if_pos hsep,h];simp only;have hle:=zlj (kh:=k.h) (km:=k.m) (kc:=k.s) (kf:=k.nanos) (ks:=k.stop) h;by_cases hs:k.stop=s.length
  .rw[if_pos hs,if_pos hs];show some _=some _
   congr 1
   exact zhi (lt8 ⟨(hf 0 (by omega)).symm,(hf 1 (by omega)).symm,(hf 2 (by omega)).symm,h3.symm,h4.symm,h5.symm,((hf 6 (by omega)).trans h6).symm,((hf 7 (by omega)).trans h7).symm⟩)
  .rw[if_neg hs,if_neg hs,if_pos ⟨by trivial,by omega⟩];cases hz:zoneAt s k.stop with
   |none=>rfl
   |some z=>
    simp only;by_cases hzs:z.stop=s.length
    .rw[if_pos hzs,if_pos hzs];show some _=some _
     congr 1
     exact zhi (lt8 ⟨(hf 0 (by omega)).symm,(hf 1 (by omega)).symm,(hf 2 (by omega)).symm,h3.symm,h4.symm,h5.symm,rfl,rfl⟩)
    .rw[if_neg hzs,if_neg hzs];rfl
theorem zwq (s:Gr.Str) (hl:s.length<=1073741823) (w wx:World) (sb rb mb ab fb:Nat) (T:Option (Array Value)) (HM:Hid (RMem s w sb rb mb ab fb 0 (fun _=>0) 0 0 0 wx)) (HT:Hid (T=rdT s)) {u3 u8 u9 u10 u11 u12 u13 u14 u15 u16 u17 u18 u19 u20 u21 u22 u23 u24 u25 u26 u27 u28 u29 u30 u31 u32 u33 u34 u35 u36 u37 u38 u39 u40 u41 u42 u43 u44 u45 u46 u47 u48 u49 u50 u51 u52 u53 u54 u55 u56 u57 u58 u59 u60 u61 u62 u63 u64 u65 u66 u67 u68 u69 u70 u71 u72 u73 u74 u75 u76 u77 u78 u79 u80 u81 u82 u83 u84 u85 u86 u87 u88 u89 u90 u91 u92 u93 u94 u95 u96 u97 u98 u99 u100 u101 u102 u103 u104 u105 u106 u107 u108 u109 u110 u111 u112 u113 u114 u115 u116 u117 u118 u119 u120 u121 u122 u123 u124 u125 u126 u127 u128 u129 u130 u131 u132 u133 u134 u135 u136 u137 u138 u139 u140 u141 u142 u143 u144 u145 u146 u147 u148 u149 u150 u151 u152 u153 u154:Value}:
 Code.wp prog (tl 5 (f54.body.getD .skip)) (bodyPost prog f54 (RPost T w)) {tmps:=List.toArray (.string ⟨s.toArray⟩::.pointer (some ⟨sb,0,none⟩)::.pointer (some ⟨rb,0,none⟩)::u3::.pointer (some ⟨mb,0,none⟩)::.pointer (some ⟨ab,0,none⟩)::.pointer (some ⟨fb,0,none⟩)::.func (.func 82) #[] #[.pointer (some ⟨ab,0,none⟩),.pointer (some ⟨sb,0,none⟩),.pointer (some ⟨fb,0,none⟩)]::u8::u9::u10::u11::u12::u13::u14::u15::u16::u17::u18::u19::u20::u21::u22::u23::u24::u25::u26::u27::u28::u29::u30::u31::u32::u33::u34::u35::u36::u37::u38::u39::u40::u41::u42::u43::u44::u45::u46::u47::u48::u49::u50::u51::u52::u53::u54::u55::u56::u57::u58::u59::u60::u61::u62::u63::u64::u65::u66::u67::u68::u69::u70::u71::u72::u73::u74::u75::u76::u77::u78::u79::u80::u81::u82::u83::u84::u85::u86::u87::u88::u89::u90::u91::u92::u93::u94::u95::u96::u97::u98::u99::u100::u101::u102::u103::u104::u105::u106::u107::u108::u109::u110::u111::u112::u113::u114::u115::u116::u117::u118::u119::u120::u121::u122::u123::u124::u125::u126::u127::u128::u129::u130::u131::u132::u133::u134::u135::u136::u137::u138::u139::u140::u141::u142::u143::u144::u145::u146::u147::u148::u149::u150::u151::u152::u153::u154::[]),defers:=[]} wx:=by
 generalize hc0:tl 5 (f54.body.getD .skip)=c0;simp only[tl,f54,Option.getD_some]at hc0;subst hc0;have O:=hid (zd5 s hl ab sb fb mb 0 4 45 0 3 8 0 (fun _=>0) 0 0 4 45 rfl rfl (by omega) (by omega) (by omega) (by omega) (by omega) (by omega) 1 rfl (Nat.zero_le _) wx HM.out.a HM.out.s HM.out.f HM.out.m);have qS:wx.cell? ⟨sb,0,none⟩=some (.string ⟨s.toArray⟩):=HM.out.s.cell 0;obtain⟨G,Y⟩:∃G,decide (∃h:2<s.length,(s[2]'h).toNat≠58)=G:=⟨_,rfl⟩
 have o:=hid Y;clear Y;go_upto_region 5 with fail;go_cut [18] (fun s18 wy=>s18=.bool G/\wy=wx)
 case first=>
  by_cases hlt:2<s.length
  .have D:(2:Int)<(s.length:Int):=by omega
   obtain⟨b,B⟩:∃b:Nat,(s[2]'hlt).toNat=b:=⟨_,rfl⟩
   have ad:(((⟨s.toArray⟩:ByteArray)[2]'(by simpa[ByteArray.size]using hlt)).toNat:Int)=(b:Int):=by rw[<-B];rfl
   by_cases h58:b=58
   .have g:(b:Int)=58:=by omega
    have W:((b:Int)==58)=true:=by simpa using g
    obtain rfl:G=false:=by rw[<-o.out];exact decide_eq_false (fun⟨_,e⟩=>e (B.trans h58))
    clear B h58;go_wp2;go_meet;exact⟨rfl,rfl⟩
   .have g:¬(b:Int)=58:=by omega
    have W:((b:Int)==58)=false:=by simpa using g
    obtain rfl:G=true:=by rw[<-o.out];exact decide_eq_true ⟨hlt,fun e=>h58 (B.symm.trans e)⟩
    clear B h58;go_wp2;go_meet;exact⟨by first|rfl|simp[g],rfl⟩
  .have D:¬(2:Int)<(s.length:Int):=by omega
   obtain rfl:G=false:=by rw[<-o.out];exact decide_eq_false (fun⟨h,_⟩=>hlt h)
   go_wp2;go_meet;exact⟨rfl,rfl⟩
 case rest=>
 obtain⟨rfl,M⟩:=hcut;rw[M];clear M qS;go_upto_if 18 with fail;go_cut [] (fun wy=>∃(f':Nat->Nat) (p' sh':Nat),p'<=s.length/\sh'<=1/\Hid (RMem s w sb rb mb ab fb sh' f' 0 0 p' wy)/\Hid (ClockT s sh' f' p' T/\f' 6=0/\f' 7=0))
 case first=>
  cases G with
  |false=>
   have A:Hid (ClockT s 0 (fun _=>0) 0 T):=hid (by
    rw[HT.out];refine zwo (ziy (fun h2=>?_));have h:=of_decide_eq_false o.out;by_cases e:(s[2]'h2).toNat=58
    .exact e
    .exact absurd ⟨h2,e⟩ h)
   go_wp2;go_meet;exact⟨fun _=>0,0,0,Nat.zero_le _,by omega,HM,hid ⟨A.out,rfl,rfl⟩⟩
  |true=>
   have aj:Hid (Gr.clockAt s 0=none):=hid (by
    obtain⟨h1,h2⟩:=of_decide_eq_true o.out;exact zhj h1 h2)
   go_wp2_with fail;refine O.out.mono ?_;rintro e E ⟨hk,f',z,⟨rfl,Q,U,t,S⟩|⟨rfl,hno,p4,hp4,t⟩⟩
   .have d:Hid (RMem s w sb rb mb ab fb 0 f' 0 0 10 E):=hid (HM.out.fld hk z (by simpa[posAt]using t));have F:10<=s.length:=by simpa[posAt]using S
    have i:Hid (Gr.dateAt s=some (f' 0,f' 1,f' 2)/\(∀j,3<=j->f' j=0)):=hid ⟨zte Q,fun j hj=>U j (.inr (by omega))⟩;clear hk z t Q U S;have af:E.cell? ⟨mb,0,none⟩=some (.int .i64 ((0:Nat):Int)):=d.out.m.cell 0;have ai:∀j,E.frozen? ⟨mb,j,none⟩=false:=d.out.m.frozen;go_upto_region 9 with fail;obtain⟨y,I⟩:=ex (E.setCell ⟨mb,0,none⟩ (.int .i64 1))
    have c:Hid (RMem s w sb rb mb ab fb 1 f' 0 0 10 y):=hid (by rw[<-I];exact d.out.sh_ 1);(try rw[I]);clear af ai I HM O;have qA:y.cell? ⟨ab,0,none⟩=some (.int .i64 ((10:Nat):Int)):=c.out.a.cell 0;have qAF:∀j,y.frozen? ⟨ab,j,none⟩=false:=c.out.a.frozen;have qS:y.cell? ⟨sb,0,none⟩=some (.string ⟨s.toArray⟩):=c.out.s.cell 0;by_cases h10:s.length=10
    .have C:((10:Int)==(s.length:Int))=true:=by rw[h10];rfl
     have ae:Hid (T=some (mC 1 f' 0 (0:Nat))):=hid (by
      rw[HT.out];unfold rdT Gr.rd;rw[i.out.1];simp only;rw[if_pos h10];show some _=some _
      congr 1
      exact zhi (lt8 ⟨rfl,rfl,rfl,(i.out.2 3 (by omega)).symm,(i.out.2 4 (by omega)).symm,(i.out.2 5 (by omega)).symm,(i.out.2 6 (by omega)).symm,(i.out.2 7 (by omega)).symm⟩))
     clear h10;obtain⟨m0,m1,m2,m3,m4,m5,m6,m7,m8,m9,P⟩:=zaf c.out.m;obtain⟨x0,x1,x2,x3,x4,x5,x6,x7,x8,x9,V⟩:=zaf c.out.r;have xf:∀j,y.frozen? ⟨rb,j,none⟩=false:=c.out.r.frozen;go_wp2_with fail;clear C F;have p:Blk (((((((((((y.setCell ⟨rb,0,none⟩ (.int .i64 1)).setCell ⟨rb,1,none⟩ (.int .i64 (f' 0:Int))).setCell ⟨rb,2,none⟩ (.int .i64 (f' 1:Int))).setCell ⟨rb,3,none⟩ (.int .i64 (f' 2:Int))).setCell ⟨rb,4,none⟩ (.int .i64 (f' 3:Int))).setCell ⟨rb,5,none⟩ (.int .i64 (f' 4:Int))).setCell ⟨rb,6,none⟩ (.int .i64 (f' 5:Int))).setCell ⟨rb,7,none⟩ (.int .i64 (f' 6:Int))).setCell ⟨rb,8,none⟩ (.int .i64 (f' 7:Int))).setCell ⟨rb,9,none⟩ (.int .i64 0)).setCell ⟨rb,10,none⟩ (.int .u8 0)) rb 94 (mC 1 f' 0 (0:Nat)):=zba c.out.r;obtain⟨e0,e1,e2,e3,e4,e5,e6,e7,e8,e9,R⟩:=zaf p;have q:Below w.heap.size w (((((((((((y.setCell ⟨rb,0,none⟩ (.int .i64 1)).setCell ⟨rb,1,none⟩ (.int .i64 (f' 0:Int))).setCell ⟨rb,2,none⟩ (.int .i64 (f' 1:Int))).setCell ⟨rb,3,none⟩ (.int .i64 (f' 2:Int))).setCell ⟨rb,4,none⟩ (.int .i64 (f' 3:Int))).setCell ⟨rb,5,none⟩ (.int .i64 (f' 4:Int))).setCell ⟨rb,6,none⟩ (.int .i64 (f' 5:Int))).setCell ⟨rb,7,none⟩ (.int .i64 (f' 6:Int))).setCell ⟨rb,8,none⟩ (.int .i64 (f' 7:Int))).setCell ⟨rb,9,none⟩ (.int .i64 0)).setCell ⟨rb,10,none⟩ (.int .u8 0)):=zcr c.out.b c.out.n;refine bodyPost_ret (v:=.tuple #[.agg #[.int .i64 1,.int .i64 (f' 0:Int),.int .i64 (f' 1:Int),.int .i64 (f' 2:Int),.int .i64 (f' 3:Int),.int .i64 (f' 4:Int),.int .i64 (f' 5:Int),.int .i64 (f' 6:Int),.int .i64 (f' 7:Int),.int .i64 0,.int .u8 0],.bool true]) (by rw[results_cell_tmp rfl];go_simp) rfl ?_;have u:=ae.out;unfold RPost;rw[u];exact⟨q,1,f',0,(0:Nat),rfl,fun x Z=>(Option.some.inj Z).symm⟩
    .have C:((10:Int)==(s.length:Int))=false:=by
      rw[Bool.eq_false_iff];intro e;have:=eq_of_beq e;omega
     have N:=hid h10;have hlt:10<s.length:=by omega
     have D:(10:Int)<(s.length:Int):=by omega
     clear h10;obtain⟨b,B⟩:∃b:Nat,(s[10]'hlt).toNat=b:=⟨_,rfl⟩
     have ad:(((⟨s.toArray⟩:ByteArray)[10]'(by simpa[ByteArray.size]using hlt)).toNat:Int)=(b:Int):=by rw[<-B];rfl
     have HB:=hid B;clear B;by_cases hsp:b=84\/b=32
     .have A:Hid (ClockT s 1 f' 11 T/\f' 6=0/\f' 7=0):=hid (by
       rw[HT.out];refine⟨zwp i.out.1 N.out ?_ (i.out.2 6 (by omega)) (i.out.2 7 (by omega)),i.out.2 6 (by omega),i.out.2 7 (by omega)⟩;rw[zbt hlt HB.out,zbt hlt HB.out];rcases hsp with rfl|rfl<;>rfl)
      have L:=hid (c.out.at_ 11);by_cases h84:b=84
      .have l:(b:Int)=84:=by omega
       have J:((b:Int)==84)=true:=by simpa using l
       clear hsp h84;go_wp2;go_meet;exact⟨f',11,1,by omega,by omega,L,A⟩
      .have ah:b=32:=by omega
       have l:¬(b:Int)=84:=by omega
       have J:((b:Int)==84)=false:=by simpa using l
       have H:(b:Int)=32:=by omega
       have X:((b:Int)==32)=true:=by simpa using H
       clear hsp h84 ah;go_wp2;go_meet;exact⟨f',11,1,by omega,by omega,L,A⟩
     .have l:¬(b:Int)=84:=by omega
      have J:((b:Int)==84)=false:=by simpa using l
      have H:¬(b:Int)=32:=by omega
      have X:((b:Int)==32)=false:=by simpa using H
      have n84:((b:Int) != 84)=true:=by rw[bne,J];rfl
      have n32:((b:Int) != 32)=true:=by rw[bne,X];rfl
      have k:Hid (T=none):=hid (by
       rw[HT.out];unfold rdT Gr.rd;rw[i.out.1];simp only;rw[if_neg N.out,if_neg]
       .rfl
       .rw[zbt hlt HB.out,zbt hlt HB.out];simp;omega)
      clear hsp;obtain⟨m0,m1,m2,m3,m4,m5,m6,m7,m8,m9,P⟩:=zaf c.out.m;obtain⟨x0,x1,x2,x3,x4,x5,x6,x7,x8,x9,V⟩:=zaf c.out.r;have xf:∀j,y.frozen? ⟨rb,j,none⟩=false:=c.out.r.frozen;go_wp2_with fail;have p:Blk (((((((((((y.setCell ⟨rb,0,none⟩ (.int .i64 1)).setCell ⟨rb,1,none⟩ (.int .i64 (f' 0:Int))).setCell ⟨rb,2,none⟩ (.int .i64 (f' 1:Int))).setCell ⟨rb,3,none⟩ (.int .i64 (f' 2:Int))).setCell ⟨rb,4,none⟩ (.int .i64 (f' 3:Int))).setCell ⟨rb,5,none⟩ (.int .i64 (f' 4:Int))).setCell ⟨rb,6,none⟩ (.int .i64 (f' 5:Int))).setCell ⟨rb,7,none⟩ (.int .i64 (f' 6:Int))).setCell ⟨rb,8,none⟩ (.int .i64 (f' 7:Int))).setCell ⟨rb,9,none⟩ (.int .i64 0)).setCell ⟨rb,10,none⟩ (.int .u8 0)) rb 94 (mC 1 f' 0 (0:Nat)):=zba c.out.r;obtain⟨e0,e1,e2,e3,e4,e5,e6,e7,e8,e9,R⟩:=zaf p;have q:Below w.heap.size w (((((((((((y.setCell ⟨rb,0,none⟩ (.int .i64 1)).setCell ⟨rb,1,none⟩ (.int .i64 (f' 0:Int))).setCell ⟨rb,2,none⟩ (.int .i64 (f' 1:Int))).setCell ⟨rb,3,none⟩ (.int .i64 (f' 2:Int))).setCell ⟨rb,4,none⟩ (.int .i64 (f' 3:Int))).setCell ⟨rb,5,none⟩ (.int .i64 (f' 4:Int))).setCell ⟨rb,6,none⟩ (.int .i64 (f' 5:Int))).setCell ⟨rb,7,none⟩ (.int .i64 (f' 6:Int))).setCell ⟨rb,8,none⟩ (.int .i64 (f' 7:Int))).setCell ⟨rb,9,none⟩ (.int .i64 0)).setCell ⟨rb,10,none⟩ (.int .u8 0)):=zcr c.out.b c.out.n;refine bodyPost_ret (v:=.tuple #[.agg #[.int .i64 1,.int .i64 (f' 0:Int),.int .i64 (f' 1:Int),.int .i64 (f' 2:Int),.int .i64 (f' 3:Int),.int .i64 (f' 4:Int),.int .i64 (f' 5:Int),.int .i64 (f' 6:Int),.int .i64 (f' 7:Int),.int .i64 0,.int .u8 0],.bool false]) (by rw[results_cell_tmp rfl];go_simp) rfl ?_;have u:T=none:=k.out;unfold RPost;rw[u];exact⟨q,1,f',0,(0:Nat),rfl,fun x Z=>by cases Z⟩
   .have d:Hid (RMem s w sb rb mb ab fb 0 f' 0 0 p4 E):=hid (HM.out.fld hk z t);have k:Hid (T=none):=hid (by
     rw[HT.out];unfold rdT Gr.rd;rw[zm3 hno];simp only;rw[aj.out];rfl)
    clear hk z t hno;obtain⟨m0,m1,m2,m3,m4,m5,m6,m7,m8,m9,P⟩:=zaf d.out.m;obtain⟨x0,x1,x2,x3,x4,x5,x6,x7,x8,x9,V⟩:=zaf d.out.r;have xf:∀j,E.frozen? ⟨rb,j,none⟩=false:=d.out.r.frozen;go_wp2_with fail;have p:Blk (((((((((((E.setCell ⟨rb,0,none⟩ (.int .i64 ((0:Nat):Int))).setCell ⟨rb,1,none⟩ (.int .i64 (f' 0:Int))).setCell ⟨rb,2,none⟩ (.int .i64 (f' 1:Int))).setCell ⟨rb,3,none⟩ (.int .i64 (f' 2:Int))).setCell ⟨rb,4,none⟩ (.int .i64 (f' 3:Int))).setCell ⟨rb,5,none⟩ (.int .i64 (f' 4:Int))).setCell ⟨rb,6,none⟩ (.int .i64 (f' 5:Int))).setCell ⟨rb,7,none⟩ (.int .i64 (f' 6:Int))).setCell ⟨rb,8,none⟩ (.int .i64 (f' 7:Int))).setCell ⟨rb,9,none⟩ (.int .i64 ((0:Nat):Int))).setCell ⟨rb,10,none⟩ (.int .u8 ((0:Nat):Int))) rb 94 (mC 0 f' 0 (0:Nat)):=zba d.out.r;obtain⟨e0,e1,e2,e3,e4,e5,e6,e7,e8,e9,R⟩:=zaf p;have q:Below w.heap.size w (((((((((((E.setCell ⟨rb,0,none⟩ (.int .i64 ((0:Nat):Int))).setCell ⟨rb,1,none⟩ (.int .i64 (f' 0:Int))).setCell ⟨rb,2,none⟩ (.int .i64 (f' 1:Int))).setCell ⟨rb,3,none⟩ (.int .i64 (f' 2:Int))).setCell ⟨rb,4,none⟩ (.int .i64 (f' 3:Int))).setCell ⟨rb,5,none⟩ (.int .i64 (f' 4:Int))).setCell ⟨rb,6,none⟩ (.int .i64 (f' 5:Int))).setCell ⟨rb,7,none⟩ (.int .i64 (f' 6:Int))).setCell ⟨rb,8,none⟩ (.int .i64 (f' 7:Int))).setCell ⟨rb,9,none⟩ (.int .i64 ((0:Nat):Int))).setCell ⟨rb,10,none⟩ (.int .u8 ((0:Nat):Int))):=zcr d.out.b d.out.n;refine bodyPost_ret (v:=.tuple #[.agg #[.int .i64 ((0:Nat):Int),.int .i64 (f' 0:Int),.int .i64 (f' 1:Int),.int .i64 (f' 2:Int),.int .i64 (f' 3:Int),.int .i64 (f' 4:Int),.int .i64 (f' 5:Int),.int .i64 (f' 6:Int),.int .i64 (f' 7:Int),.int .i64 ((0:Nat):Int),.int .u8 ((0:Nat):Int)],.bool false]) (by rw[results_cell_tmp rfl];go_simp) rfl ?_;have u:T=none:=k.out;unfold RPost;rw[u];exact⟨q,0,f',0,(0:Nat),rfl,fun x Z=>by cases Z⟩
 case rest=>
 obtain⟨f',p',sh',ac,K,aa,ag⟩:=hcut;refine(‹∀(a:Act) (w_1:World),Code.wp prog _ _ a w_1->_›) _ _ ?_;exact zth s hl w _ sb rb mb ab fb sh' f' p' T aa ac K ag
namespace Utf
def rowOf (c:Nat):Nat×Nat×Nat×Nat:=
 if 192<=c/\c<224 then(2,c-192,128,2047)
 else if 224<=c/\c<240 then(3,c-224,2048,65535)
 else if 240<=c/\c<248 then(4,c-240,65536,1114111)
 else(0,0,0,0)
def goOn:Nat->Str->Option Nat
 |v,[]=>some v
 |v,c::r=>if c<128 || 191<c then none else goOn (64*v+(c.toNat-128)) r
def widen:Nat->Nat×Nat->Nat×Nat
 | 0,p=>p
 |k+1,p=>widen k (64*p.1,64*p.2+63)
def begins (b:Str):Nat×Nat:=
 match b with
 | []=>(0,0)
 |c::r=>
  if c<128/\r=[]then(c.toNat,1)
  else
   let n:=(rowOf c.toNat).1
   if r.length+1>n then(0,0)
   else match goOn (rowOf c.toNat).2.1 r with
    |none=>(0,0)
    |some v=>
     let p:=widen (n-(r.length+1)) (v,v)
     if p.2<(rowOf c.toNat).2.2.1\/p.1>(rowOf c.toNat).2.2.2\/(p.1>=55296/\p.2<=57343)then(0,0)else(p.1,n)
def refAt (r:Str):Nat×Nat:=
 if 1<=r.length/\(begins (r.take 1)).2=1 then begins (r.take 1)
 else if 2<=r.length/\(begins (r.take 2)).2=2 then begins (r.take 2)
 else if 3<=r.length/\(begins (r.take 3)).2=3 then begins (r.take 3)
 else if 4<=r.length/\(begins (r.take 4)).2=4 then begins (r.take 4)
 else(0,0)
end Utf
end Go.Proofs.YtpjmhafmeieloaaGreatDoor
namespace Go.Proofs.YtpjmhafmeieloaaGreatDoor
namespace Utf
theorem lt8 (c:UInt8) (k:Nat) (hk:k<256):(c<UInt8.ofNat k)↔c.toNat<k:=by
 rw[UInt8.lt_iff_toNat_lt,UInt8.toNat_ofNat_of_lt' (by simpa using hk)]
theorem gt8 (c:UInt8) (k:Nat) (hk:k<256):(UInt8.ofNat k<c)↔k<c.toNat:=by
 rw[UInt8.lt_iff_toNat_lt,UInt8.toNat_ofNat_of_lt' (by simpa using hk)]
def isC (d:UInt8):Bool:=decide (128<=d.toNat) && decide (d.toNat<=191)
theorem zca (v:Nat) (d:UInt8) (r:Str):goOn v (d::r)=if isC d then goOn (64*v+(d.toNat-128)) r else none:=by
 have b:(d<128)↔d.toNat<128:=lt8 d 128 (by omega);have a:(191<d)↔191<d.toNat:=gt8 d 191 (by omega);rw[goOn];by_cases hd:isC d=true
 .have:128<=d.toNat/\d.toNat<=191:=by simpa[isC]using hd
  rw[if_pos hd,if_neg];simp[b,a];omega
 .rw[if_neg hd,if_pos];simp only[isC,Bool.and_eq_true,decide_eq_true_eq]at hd;simp[b,a];omega
theorem zc2 (c d:UInt8) (r:Str):begins (c::d::r)=
 if r.length+2>(rowOf c.toNat).1 then(0,0)
 else match goOn (rowOf c.toNat).2.1 (d::r)with
  |none=>(0,0)
  |some v=>if(widen ((rowOf c.toNat).1-(r.length+2)) (v,v)).2<(rowOf c.toNat).2.2.1\/(widen ((rowOf c.toNat).1-(r.length+2)) (v,v)).1>(rowOf c.toNat).2.2.2\/((widen ((rowOf c.toNat).1-(r.length+2)) (v,v)).1>=55296/\(widen ((rowOf c.toNat).1-(r.length+2)) (v,v)).2<=57343)then(0,0)else((widen ((rowOf c.toNat).1-(r.length+2)) (v,v)).1,(rowOf c.toNat).1):=by
 unfold begins;simp only[reduceCtorEq,and_false,if_false,List.length_cons]
 all_goals rfl
theorem znh (c d:UInt8) (r:Str):(begins (c::d::r)).2=0\/((begins (c::d::r)).2=(rowOf c.toNat).1/\r.length+2<=(rowOf c.toNat).1):=by
 rw[zc2];split
 .exact .inl rfl
 .grind
theorem zni (c:UInt8):(begins [c]).2=1↔c.toNat<128:=by
 have hlt:c.toNat<256:=c.toNat_lt;have a:(c<128)↔c.toNat<128:=by rw[UInt8.lt_iff_toNat_lt];rfl
 unfold begins;simp only[and_true,List.length_nil,a];by_cases hc:c.toNat<128
 .simp[hc]
 .rw[if_neg hc];simp only[hc,iff_false];unfold rowOf;split
  .simp only[goOn,widen];repeat' split
   all_goals simp
  .split
   .simp only[goOn,widen];repeat' split
    all_goals simp
   .split
    .simp only[goOn,widen];repeat' split
     all_goals simp
    .simp
theorem zw1 (c:Nat) (h:192<=c/\c<224):rowOf c=(2,c-192,128,2047):=by unfold rowOf;rw[if_pos h]
theorem zrj (c:Nat) (h:224<=c/\c<240):rowOf c=(3,c-224,2048,65535):=by unfold rowOf;rw[if_neg (by omega),if_pos h]
theorem zts (c:Nat) (h:240<=c/\c<248):rowOf c=(4,c-240,65536,1114111):=by unfold rowOf;rw[if_neg (by omega),if_neg (by omega),if_pos h]
theorem ztt (c:Nat) (h:c<192\/248<=c):rowOf c=(0,0,0,0):=by unfold rowOf;rw[if_neg (by omega),if_neg (by omega),if_neg (by omega)]
theorem zds (c:UInt8) (r:Str) (n:Nat) (hc:¬c.toNat<128) (hn:(rowOf c.toNat).1=n) (_h2:2<=n\/n=0) (h4:n<=4):
 refAt (c::r)=if 2<=n/\n<=r.length+1/\(begins ((c::r).take n)).2=n then begins ((c::r).take n)else(0,0):=by
 have b:¬(begins ((c::r).take 1)).2=1:=by
  rw[show(c::r).take 1=[c]from rfl,zni];exact hc
 have hoth:∀k,2<=k->k<=r.length+1->k≠n->¬(begins ((c::r).take k)).2=k:=by
  intro k hk a hkn;cases r with
  |nil=>rw[List.length_nil]at a;omega
  |cons d q=>
   obtain⟨j,rfl⟩:∃j,k=j+2:=⟨k-2,by omega⟩
   have:=znh c d (q.take j);rw[show(c::d::q).take (j+2)=c::d::q.take j from rfl];have hl:(q.take j).length=j:=by rw[List.length_take];simp only[List.length_cons]at a;omega
   intro he;rcases this with h|h
   .omega
   .omega
 unfold refAt;rw[if_neg (fun h=>b h.2),List.length_cons];by_cases a2:n=2
 .grind
 .grind
def Agree (s:Str):Prop:=((dec s).1=65533/\(dec s).2=1/\(refAt s).2=0)\/(¬((dec s).1=65533/\(dec s).2=1)/\refAt s=dec s)
theorem zrk (c:UInt8) (r:Str) (hc:c.toNat<128):Agree (c::r):=by
 have d:(c<128)↔c.toNat<128:=lt8 c 128 (by omega);have a:dec (c::r)=(c.toNat,1):=by
  unfold dec;simp only[List.getD_cons_zero];rw[if_pos hc]
 have b:begins [c]=(c.toNat,1):=by
  unfold begins;simp only[and_true,d,hc,if_true]
 refine .inr ⟨by rw[a];simp only;omega,?_⟩;rw[a];unfold refAt;rw[show(c::r).take 1=[c]from rfl,b,if_pos ⟨by simp,rfl⟩]
theorem znj (c:UInt8) (r:Str) (hc:128<=c.toNat) (h:c.toNat<192\/248<=c.toNat):Agree (c::r):=by
 have hlt:c.toNat<256:=c.toNat_lt;have a:dec (c::r)=(65533,1):=by
  unfold dec;simp only[List.getD_cons_zero];have d:(c.toNat /32==6)=false:=by simp;omega
  have e:(c.toNat /16==14)=false:=by simp;omega
  have b:(c.toNat /8==30)=false:=by simp;omega
  rw[if_neg (by omega),d,e,b];simp
 refine .inl ⟨by rw[a],by rw[a],?_⟩;rw[zds c r 0 (by omega) (by rw[ztt _ h]) (.inr rfl) (by omega),if_neg (by omega)]
theorem zd7 (d:UInt8):(d.toNat /64==2)=isC d:=by
 have hlt:d.toNat<256:=d.toNat_lt;unfold isC;rw[Bool.eq_iff_iff];simp;omega
theorem zrl (c:UInt8) (r:Str) (h:192<=c.toNat/\c.toNat<224):Agree (c::r):=by
 have b:=zw1 _ h;have a:=zds c r 2 (by omega) (by rw[b]) (.inl (by omega)) (by omega);have j:(c.toNat /32==6)=true:=by simp;omega
 have k:(c.toNat /16==14)=false:=by simp;omega
 have i:(c.toNat /8==30)=false:=by simp;omega
 cases r with
 |nil=>
  have f:dec [c]=(65533,1):=by
   unfold dec;simp only[List.getD_cons_zero];rw[if_neg (by omega),j,k,i];simp
  exact .inl ⟨by rw[f],by rw[f],by rw[a,if_neg (by simp)]⟩
 |cons d q=>
  have l:begins ((c::d::q).take 2)=begins [c,d]:=rfl;have g:dec (c::d::q)=if isC d then(if 128<=c.toNat%32*64+d.toNat%64 then(c.toNat%32*64+d.toNat%64,2)else(65533,1))else(65533,1):=by
   unfold dec;simp only[List.getD_cons_zero,List.getD_cons_succ,List.length_cons];rw[if_neg (by omega),j,k,i,zd7];simp
  have e:begins [c,d]=if isC d then(if 128<=c.toNat%32*64+d.toNat%64 then(c.toNat%32*64+d.toNat%64,2)else(0,0))else(0,0):=by
   rw[zc2,b,if_neg (by simp),zca];cases f:isC d with
   |false=>rfl
   |true=>
    have hd2:128<=d.toNat/\d.toNat<=191:=by simpa[isC]using f
    have m:64*(c.toNat-192)+(d.toNat-128)=c.toNat%32*64+d.toNat%64:=by omega
    simp only[if_true,goOn,List.length_nil,Nat.zero_add,Nat.sub_self,widen,m];by_cases hge:128<=c.toNat%32*64+d.toNat%64
    .grind
    .grind
  rw[l]at a;unfold Agree;rw[g,a,e];cases f:isC d with
  |false=>simp
  |true=>
   grind
end Utf
end Go.Proofs.YtpjmhafmeieloaaGreatDoor
namespace Go.Proofs.YtpjmhafmeieloaaGreatDoor
namespace Utf
theorem zi7 (v:Nat):Utf8.valid (v:Int)=(decide (v<55296) || (decide (57344<=v) && decide (v<=1114111))):=by
 unfold Utf8.valid;rw[Bool.eq_iff_iff];simp only[Bool.or_eq_true,Bool.and_eq_true,decide_eq_true_eq];omega
theorem zkb (c:UInt8) (r:Str) (h:224<=c.toNat/\c.toNat<240):Agree (c::r):=by
 have f:=zrj _ h;have a:=zds c r 3 (by omega) (by rw[f]) (.inl (by omega)) (by omega);have m:(c.toNat /32==6)=false:=by simp;omega
 have n:(c.toNat /16==14)=true:=by simp;omega
 have l:(c.toNat /8==30)=false:=by simp;omega
 match r,a with
 | [],a=>
  have b:dec [c]=(65533,1):=by
   unfold dec;simp only[List.getD_cons_zero];rw[if_neg (by omega),m,n,l];simp
  exact .inl ⟨by rw[b],by rw[b],by rw[a,if_neg (by simp)]⟩
 | [d],a=>
  have b:dec [c,d]=(65533,1):=by
   unfold dec;simp only[List.getD_cons_zero];rw[if_neg (by omega),m,n,l];simp
  exact .inl ⟨by rw[b],by rw[b],by rw[a,if_neg (by simp)]⟩
 |d::e::q,a=>
  have s:begins ((c::d::e::q).take 3)=begins [c,d,e]:=rfl;obtain⟨v,t⟩:∃v,v=c.toNat%16*4096+d.toNat%64*64+e.toNat%64:=⟨_,rfl⟩
  have k:dec (c::d::e::q)=if isC d && isC e then(if 2048<=v/\(v<55296\/57343<v)then(v,3)else(65533,1))else(65533,1):=by
   unfold dec;simp only[List.getD_cons_zero,List.getD_cons_succ,List.length_cons];rw[if_neg (by omega),m,n,l,zd7,zd7,<-t];have i:decide (1<q.length+1+1+1)=true:=by simp
   have g:decide (2<q.length+1+1+1)=true:=by simp
   rw[i,g];simp only[Bool.false_and,Bool.true_and,Bool.false_eq_true,if_false];have p:v<=65535:=by omega
   cases hdd:isC d && isC e with
   |false=>simp
   |true=>
    simp only[if_true,zi7];by_cases hg:2048<=v/\(v<55296\/57343<v)
    .grind
    .grind
  have j:begins [c,d,e]=if isC d && isC e then(if 2048<=v/\(v<55296\/57343<v)then(v,3)else(0,0))else(0,0):=by
   rw[zc2,f,if_neg (by simp),zca];cases b:isC d with
   |false=>rfl
   |true=>
    rw[if_pos rfl,zca];cases he:isC e with
    |false=>rfl
    |true=>
     have hd2:128<=d.toNat/\d.toNat<=191:=by simpa[isC]using b
     have he2:128<=e.toNat/\e.toNat<=191:=by simpa[isC]using he
     have o:64*(64*(c.toNat-224)+(d.toNat-128))+(e.toNat-128)=v:=by omega
     have p:v<=65535:=by omega
     simp only[if_true,goOn,List.length_nil,List.length_cons,Nat.zero_add,Nat.sub_self,widen,o,Bool.and_self];by_cases hg:2048<=v/\(v<55296\/57343<v)
     .grind
     .grind
  rw[s]at a;unfold Agree;rw[k,a,j];cases b:isC d && isC e with
  |false=>simp
  |true=>
   grind
theorem znk (c:UInt8) (r:Str) (h:240<=c.toNat/\c.toNat<248):Agree (c::r):=by
 have g:=zts _ h;have b:=zds c r 4 (by omega) (by rw[g]) (.inl (by omega)) (by omega);have t:(c.toNat /32==6)=false:=by simp;omega
 have s:(c.toNat /16==14)=false:=by simp;omega
 have p:(c.toNat /8==30)=true:=by simp;omega
 have a:r.length<3->Agree (c::r):=by
  intro hl;have m:dec (c::r)=(65533,1):=by
   unfold dec;simp only[List.getD_cons_zero,List.length_cons];rw[if_neg (by omega),t,s,p];have w:decide (3<r.length+1)=false:=by simp;omega
   rw[w];simp
  exact .inl ⟨by rw[m],by rw[m],by rw[b,if_neg (by omega)]⟩
 match r,b,a with
 | [],_,a=>exact a (by simp)
 | [_],_,a=>exact a (by simp)
 | [_,_],_,a=>exact a (by simp)
 |d::e::f::q,b,_=>
  have u:begins ((c::d::e::f::q).take 4)=begins [c,d,e,f]:=rfl;obtain⟨v,x⟩:∃v,v=c.toNat%8*262144+d.toNat%64*4096+e.toNat%64*64+f.toNat%64:=⟨_,rfl⟩
  have n:dec (c::d::e::f::q)=if isC d && isC e && isC f then(if 65536<=v/\v<=1114111 then(v,4)else(65533,1))else(65533,1):=by
   unfold dec;simp only[List.getD_cons_zero,List.getD_cons_succ,List.length_cons];rw[if_neg (by omega),t,s,p,zd7,zd7,zd7,<-x];have k:decide (1<q.length+1+1+1+1)=true:=by simp
   have i:decide (2<q.length+1+1+1+1)=true:=by simp
   have j:decide (3<q.length+1+1+1+1)=true:=by simp
   rw[k,i,j];simp only[Bool.false_and,Bool.true_and,Bool.false_eq_true,if_false];cases hdd:isC d && isC e && isC f with
   |false=>simp
   |true=>
    simp only[if_true,zi7];by_cases hg:65536<=v/\v<=1114111
    .grind
    .grind
  have l:begins [c,d,e,f]=if isC d && isC e && isC f then(if 65536<=v/\v<=1114111 then(v,4)else(0,0))else(0,0):=by
   rw[zc2,g,if_neg (by simp),zca];cases m:isC d with
   |false=>rfl
   |true=>
    rw[if_pos rfl,zca];cases he:isC e with
    |false=>rfl
    |true=>
     rw[if_pos rfl,zca];cases hf:isC f with
     |false=>rfl
     |true=>
      have hd2:128<=d.toNat/\d.toNat<=191:=by simpa[isC]using m
      have he2:128<=e.toNat/\e.toNat<=191:=by simpa[isC]using he
      have hf2:128<=f.toNat/\f.toNat<=191:=by simpa[isC]using hf
      have o:64*(64*(64*(c.toNat-240)+(d.toNat-128))+(e.toNat-128))+(f.toNat-128)=v:=by omega
      simp only[if_true,goOn,List.length_nil,List.length_cons,Nat.zero_add,Nat.sub_self,widen,o,Bool.and_self];by_cases hg:65536<=v/\v<=1114111
      .grind
      .grind
  rw[u]at b;unfold Agree;rw[n,b,l];cases m:isC d && isC e && isC f with
  |false=>simp
  |true=>
   grind
theorem agree (s:Str) (h:s≠[]):Agree s:=by
 cases s with
 |nil=>exact absurd rfl h
 |cons c r=>
  have hlt:c.toNat<256:=c.toNat_lt;by_cases h1:c.toNat<128
  .exact zrk c r h1
  .by_cases h2:c.toNat<192\/248<=c.toNat
   .exact znj c r (by omega) h2
   .by_cases h3:c.toNat<224
    .exact zrl c r (by omega)
    .by_cases h4:c.toNat<240
     .exact zkb c r (by omega)
     .exact znk c r (by omega)
end Utf
end Go.Proofs.YtpjmhafmeieloaaGreatDoor
namespace Go.Proofs.YtpjmhafmeieloaaGreatDoor
namespace Utf
end Utf
end Go.Proofs.YtpjmhafmeieloaaGreatDoor

import Derived.Test.YtoigpackhninoaaGreatDoorGrInsP3C
namespace Go.Proofs.YtoigpackhninoaaGreatDoor
open Gr
open _root_.Go.Proofs.Tryz
open _root_.Go.Lib (hid)
set_option maxRecDepth 100000
set_option maxHeartbeats 16000000
open Go.RowKit
theorem zmz {s:Gr.Str} {sh:Nat} {f:Nat->Nat} {p h m c:Nat} (k:ClkIs s p h m c):(clockAt s p=none/\pointO s sh f (p+8)=none)\/∃x:Gr.Ck,clockAt s p=some x/\x.h=h/\x.m=m/\x.s=c/\pointO s sh f (p+8)=finO s sh f x.nanos x.stop:=by
 cases hd:isAt s (p+8) 46 with
 |false=>exact .inr ⟨_,zmw k hd,rfl,rfl,rfl,zi5 hd⟩
 |true=>
  rw[zru k hd];unfold pointO;rw[if_pos hd,show p+8+1=p+9 from rfl];by_cases hc:((s.drop (p+9)).takeWhile Gr.dig).length=0\/9<((s.drop (p+9)).takeWhile Gr.dig).length
  ·rw[if_pos hc,if_pos hc];exact .inl ⟨rfl,rfl⟩
  ·rw[if_neg hc,if_neg hc];exact .inr ⟨_,rfl,rfl,rfl,rfl,rfl⟩
theorem RMem.sh_ {s:Gr.Str} {w:World} {sb rb mb ab fb sh:Nat} {f:Nat->Nat} {nn z p:Nat} {wx:World} (h:RMem s w sb rb mb ab fb sh f nn z p wx) (q:Nat):RMem s w sb rb mb ab fb q f nn z p (wx.setCell ⟨mb,0,none⟩ (.int .i64 (q:Int))):=
 have hk:KM mb ab wx (wx.setCell ⟨mb,0,none⟩ (.int .i64 (q:Int))):=KM.ofM (Kept1.set _ _)
 ⟨h.b.trans (hk.below h.b.size h.nm h.na),h.n,h.nm,h.na,h.mr,hk.blk h.s (h.s.ne_ h.m (by decide)) (h.s.ne_ h.a (by decide)),hk.blk h.r h.mr.symm (h.r.ne_ h.a (by decide)),h.m.set_ 0 _,h.a.far (h.a.ne_ h.m (by decide)) _,hk.blk h.f (h.f.ne_ h.m (by decide)) (h.f.ne_ h.a (by decide))⟩
structure ClockT (s:Gr.Str) (sh:Nat) (f:Nat->Nat) (p:Nat) (T:Option (Array Value)):Prop where
 no:clockAt s p=none->T=none
 yes:∀(k:Gr.Ck) (f':Nat->Nat),clockAt s p=some k->f' 3=k.h->f' 4=k.m->f' 5=k.s->(∀j,j<3\/6<=j->f' j=f j)->T=finO s (sh+2) f' k.nanos k.stop
theorem zpc (s:Gr.Str) (hl:s.length<=1073741823) (w wx:World) (sb rb mb ab fb sh:Nat) (f:Nat->Nat) (p:Nat) (T:Option (Array Value)) (HM:Hid (RMem s w sb rb mb ab fb sh f 0 0 p wx)) (hp:p<=s.length) (hsh:sh<=1) (HT:Hid (ClockT s sh f p T/\f 6=0/\f 7=0)) {u3 u8 u9 u10 u11 u12 u13 u14 u15 u16 u17 u18 u19 u20 u21 u22 u23 u24 u25 u26 u27 u28 u29 u30 u31 u32 u33 u34 u35 u36 u37 u38 u39 u40 u41 u42 u43 u44 u45 u46 u47 u48 u49 u50 u51 u52 u53 u54 u55 u56 u57 u58 u59 u60 u61 u62 u63 u64 u65 u66 u67 u68 u69 u70 u71 u72 u73 u74 u75 u76 u77 u78 u79 u80 u81 u82 u83 u84 u85 u86 u87 u88 u89 u90 u91 u92 u93 u94 u95 u96 u97 u98 u99 u100 u101 u102 u103 u104 u105 u106 u107 u108 u109 u110 u111 u112 u113 u114 u115 u116 u117 u118 u119 u120 u121 u122 u123 u124 u125 u126 u127 u128 u129 u130 u131 u132 u133 u134 u135 u136 u137 u138 u139 u140 u141 u142 u143 u144 u145 u146 u147 u148 u149 u150 u151 u152 u153 u154:Value}:
 Code.wp prog (tl 6 (f92.body.getD .skip)) (bodyPost prog f92 (RPost T w)) {tmps:=List.toArray (.string ⟨s.toArray⟩::.pointer (some ⟨sb,0,none⟩)::.pointer (some ⟨rb,0,none⟩)::u3::.pointer (some ⟨mb,0,none⟩)::.pointer (some ⟨ab,0,none⟩)::.pointer (some ⟨fb,0,none⟩)::.func (.func 125) #[] #[.pointer (some ⟨ab,0,none⟩),.pointer (some ⟨sb,0,none⟩),.pointer (some ⟨fb,0,none⟩)]::u8::u9::u10::u11::u12::u13::u14::u15::u16::u17::u18::u19::u20::u21::u22::u23::u24::u25::u26::u27::u28::u29::u30::u31::u32::u33::u34::u35::u36::u37::u38::u39::u40::u41::u42::u43::u44::u45::u46::u47::u48::u49::u50::u51::u52::u53::u54::u55::u56::u57::u58::u59::u60::u61::u62::u63::u64::u65::u66::u67::u68::u69::u70::u71::u72::u73::u74::u75::u76::u77::u78::u79::u80::u81::u82::u83::u84::u85::u86::u87::u88::u89::u90::u91::u92::u93::u94::u95::u96::u97::u98::u99::u100::u101::u102::u103::u104::u105::u106::u107::u108::u109::u110::u111::u112::u113::u114::u115::u116::u117::u118::u119::u120::u121::u122::u123::u124::u125::u126::u127::u128::u129::u130::u131::u132::u133::u134::u135::u136::u137::u138::u139::u140::u141::u142::u143::u144::u145::u146::u147::u148::u149::u150::u151::u152::u153::u154::[]),defers:=[]} wx:=by
 generalize hc0:tl 6 (f92.body.getD .skip)=c0;simp only[tl,f92,Option.getD_some]at hc0;subst hc0;have HFL:=hid (zdb s hl ab sb fb mb p 2 58 3 3 5 sh f 0 0 2 58 rfl rfl (by omega) (by omega) (by omega) (by omega) (by omega) (by omega) 4 rfl hp wx HM.out.a HM.out.s HM.out.f HM.out.m);go_upto_region 14 with fail;go_cut [48] (fun s48 wy=>∃(f':Nat->Nat) (p':Nat),p'<=s.length/\Hid (RMem s w sb rb mb ab fb sh f' 0 0 p' wy)/\(s48=.bool true/\Hid (T=none)\/s48=.bool false/\Hid (T=pointO s (sh+2) f' p'/\f' 6=0/\f' 7=0)))
 case first=>
  go_wp2_with fail;refine HFL.out.mono ?_;rintro e w4 ⟨hk,f',hm4,⟨rfl,hfl,hf0,ha4,hpl⟩|⟨rfl,hno,p4,hp4,ha4⟩⟩
  ·have HM4:Hid (RMem s w sb rb mb ab fb sh f' 0 0 (posAt p 2 3) w4):=hid (HM.out.fld hk hm4 ha4);have HT4:Hid (T=pointO s (sh+2) f' (posAt p 2 3)/\f' 6=0/\f' 7=0):=hid (by
    have h6:f' 6=0:=(hf0 6 (by omega)).trans HT.out.2.1;have h7:f' 7=0:=(hf0 7 (by omega)).trans HT.out.2.2;refine⟨?_,h6,h7⟩;rw[show posAt p 2 3=p+8 from by simp[posAt]];rcases zmz (sh:=sh+2) (f:=f') (zrt hfl)with⟨e1,e2⟩|⟨x,e1,e2,e3,e4,e5⟩
    ·rw[e2];exact HT.out.1.no e1
    ·rw[e5];exact HT.out.1.yes x f' e1 e2.symm e3.symm e4.symm (fun j hj=>hf0 j (by omega)))
   clear hk hm4 ha4 hfl hf0;go_wp2;go_meet;exact⟨f',_,hpl,HM4,.inr ⟨rfl,HT4⟩⟩
  ·have HM4:Hid (RMem s w sb rb mb ab fb sh f' 0 0 p4 w4):=hid (HM.out.fld hk hm4 ha4);have HTN0:Hid (T=none):=hid (HT.out.1.no (ztn hno));clear hk hm4 ha4 hno;go_wp2;go_meet;exact⟨f',_,hp4,HM4,.inl ⟨rfl,HTN0⟩⟩
 case rest=>
 obtain⟨f',p',hp',HM',hor⟩:=hcut;obtain⟨wq,hwq⟩:=ex wc
 rw[hwq]at HM' ⊢;clear HM HT HFL hwq;go_upto_if 48 with fail;go_cut [] (fun wy=>wy=wq/\Hid (T=pointO s (sh+2) f' p'/\f' 6=0/\f' 7=0))
 case first=>
  rcases hor with⟨rfl,HTN0⟩|⟨rfl,HT'⟩
  ·skip
   obtain⟨m0,m1,m2,m3,m4,m5,m6,m7,m8,m9,m10⟩:=zae HM'.out.m;obtain⟨x0,x1,x2,x3,x4,x5,x6,x7,x8,x9,x10⟩:=zae HM'.out.r;have xf:∀j,wq.frozen? ⟨rb,j,none⟩=false:=HM'.out.r.frozen;go_wp2_with fail;have HSB:Blk (((((((((((wq.setCell ⟨rb,0,none⟩ (.int .i64 (sh:Int))).setCell ⟨rb,1,none⟩ (.int .i64 (f' 0:Int))).setCell ⟨rb,2,none⟩ (.int .i64 (f' 1:Int))).setCell ⟨rb,3,none⟩ (.int .i64 (f' 2:Int))).setCell ⟨rb,4,none⟩ (.int .i64 (f' 3:Int))).setCell ⟨rb,5,none⟩ (.int .i64 (f' 4:Int))).setCell ⟨rb,6,none⟩ (.int .i64 (f' 5:Int))).setCell ⟨rb,7,none⟩ (.int .i64 (f' 6:Int))).setCell ⟨rb,8,none⟩ (.int .i64 (f' 7:Int))).setCell ⟨rb,9,none⟩ (.int .i64 ((0:Nat):Int))).setCell ⟨rb,10,none⟩ (.int .u8 ((0:Nat):Int))) rb 135 (mC sh f' 0 (0:Nat)):=za0 HM'.out.r;obtain⟨e0,e1,e2,e3,e4,e5,e6,e7,e8,e9,e10⟩:=zae HSB;have HSH:Below w.heap.size w (((((((((((wq.setCell ⟨rb,0,none⟩ (.int .i64 (sh:Int))).setCell ⟨rb,1,none⟩ (.int .i64 (f' 0:Int))).setCell ⟨rb,2,none⟩ (.int .i64 (f' 1:Int))).setCell ⟨rb,3,none⟩ (.int .i64 (f' 2:Int))).setCell ⟨rb,4,none⟩ (.int .i64 (f' 3:Int))).setCell ⟨rb,5,none⟩ (.int .i64 (f' 4:Int))).setCell ⟨rb,6,none⟩ (.int .i64 (f' 5:Int))).setCell ⟨rb,7,none⟩ (.int .i64 (f' 6:Int))).setCell ⟨rb,8,none⟩ (.int .i64 (f' 7:Int))).setCell ⟨rb,9,none⟩ (.int .i64 ((0:Nat):Int))).setCell ⟨rb,10,none⟩ (.int .u8 ((0:Nat):Int))):=zb4 HM'.out.b HM'.out.n;refine bodyPost_ret (v:=.tuple #[.agg #[.int .i64 (sh:Int),.int .i64 (f' 0:Int),.int .i64 (f' 1:Int),.int .i64 (f' 2:Int),.int .i64 (f' 3:Int),.int .i64 (f' 4:Int),.int .i64 (f' 5:Int),.int .i64 (f' 6:Int),.int .i64 (f' 7:Int),.int .i64 ((0:Nat):Int),.int .u8 ((0:Nat):Int)],.bool false]) (by rw[results_cell_tmp rfl];go_simp) rfl ?_;have HTN:T=none:=HTN0.out;unfold RPost;rw[HTN];exact⟨HSH,sh,f',0,(0:Nat),rfl,fun x hx=>by cases hx⟩
  ·go_wp2;go_meet;exact⟨rfl,HT'⟩
 case rest=>
 obtain⟨hwc,HT'⟩:=hcut;rw[hwc];clear hor hwc;refine(‹∀(a:Act) (w_1:World),Code.wp prog _ _ a w_1->_›) _ _ ?_;have qM0:wq.cell? ⟨mb,0,none⟩=some (.int .i64 (sh:Int)):=HM'.out.m.cell 0;have qMF:∀j,wq.frozen? ⟨mb,j,none⟩=false:=HM'.out.m.frozen;go_upto_region 16 with fail;have HUP:Hid (∀v:Value,v=.int .i64 ((sh:Int)+2)->RMem s w sb rb mb ab fb (sh+2) f' 0 0 p' (World.setCell wq ⟨mb,0,none⟩ v)):=hid (fun v hv=>by
  rw[hv,show(sh:Int)+2=((sh+2:Nat):Int)from by omega];exact HM'.out.sh_ _)
 go_cut [] (fun wy=>Hid (RMem s w sb rb mb ab fb (sh+2) f' 0 0 p' wy))
 case first=>
  go_wp2;go_meet;exact hid (HUP.out _ rfl)
 case rest=>
 refine(‹∀(a:Act) (w_1:World),Code.wp prog _ _ a w_1->_›) _ _ ?_;exact zpb s hl w _ sb rb mb ab fb (sh+2) f' p' T hcut hp' (by omega) HT'
end Go.Proofs.YtoigpackhninoaaGreatDoor

import Derived.Test.YtoigpackhninoaaGreatDoorZ24
namespace Go.Proofs.YtoigpackhninoaaGreatDoor
open _root_.Go.Proofs.Tryz
open _root_.Go.Lib (hid)
set_option maxRecDepth 100000
set_option maxHeartbeats 16000000
open Go.RowKit
theorem zrz (s:Gr.Str) (hl:s.length<=1073741823) (w wx:World) (sb rb mb ab fb:Nat) (T:Option (Array Value)) (HM:Hid (RMem s w sb rb mb ab fb 0 (fun _=>0) 0 0 0 wx)) (HT:Hid (T=rdT s)) {u3 u8 u9 u10 u11 u12 u13 u14 u15 u16 u17 u18 u19 u20 u21 u22 u23 u24 u25 u26 u27 u28 u29 u30 u31 u32 u33 u34 u35 u36 u37 u38 u39 u40 u41 u42 u43 u44 u45 u46 u47 u48 u49 u50 u51 u52 u53 u54 u55 u56 u57 u58 u59 u60 u61 u62 u63 u64 u65 u66 u67 u68 u69 u70 u71 u72 u73 u74 u75 u76 u77 u78 u79 u80 u81 u82 u83 u84 u85 u86 u87 u88 u89 u90 u91 u92 u93 u94 u95 u96 u97 u98 u99 u100 u101 u102 u103 u104 u105 u106 u107 u108 u109 u110 u111 u112 u113 u114 u115 u116 u117 u118 u119 u120 u121 u122 u123 u124 u125 u126 u127 u128 u129 u130 u131 u132 u133 u134 u135 u136 u137 u138 u139 u140 u141 u142 u143 u144 u145 u146 u147 u148 u149 u150 u151 u152 u153 u154:Value}:
 Code.wp prog (tl 5 (f92.body.getD .skip)) (bodyPost prog f92 (RPost T w)) {tmps:=List.toArray (.string ⟨s.toArray⟩::.pointer (some ⟨sb,0,none⟩)::.pointer (some ⟨rb,0,none⟩)::u3::.pointer (some ⟨mb,0,none⟩)::.pointer (some ⟨ab,0,none⟩)::.pointer (some ⟨fb,0,none⟩)::.func (.func 125) #[] #[.pointer (some ⟨ab,0,none⟩),.pointer (some ⟨sb,0,none⟩),.pointer (some ⟨fb,0,none⟩)]::u8::u9::u10::u11::u12::u13::u14::u15::u16::u17::u18::u19::u20::u21::u22::u23::u24::u25::u26::u27::u28::u29::u30::u31::u32::u33::u34::u35::u36::u37::u38::u39::u40::u41::u42::u43::u44::u45::u46::u47::u48::u49::u50::u51::u52::u53::u54::u55::u56::u57::u58::u59::u60::u61::u62::u63::u64::u65::u66::u67::u68::u69::u70::u71::u72::u73::u74::u75::u76::u77::u78::u79::u80::u81::u82::u83::u84::u85::u86::u87::u88::u89::u90::u91::u92::u93::u94::u95::u96::u97::u98::u99::u100::u101::u102::u103::u104::u105::u106::u107::u108::u109::u110::u111::u112::u113::u114::u115::u116::u117::u118::u119::u120::u121::u122::u123::u124::u125::u126::u127::u128::u129::u130::u131::u132::u133::u134::u135::u136::u137::u138::u139::u140::u141::u142::u143::u144::u145::u146::u147::u148::u149::u150::u151::u152::u153::u154::[]),defers:=[]} wx:=by
 generalize hc0:tl 5 (f92.body.getD .skip)=c0;simp only[tl,f92,Option.getD_some]at hc0;subst hc0;have HFL:=hid (zdb s hl ab sb fb mb 0 4 45 0 3 8 0 (fun _=>0) 0 0 4 45 rfl rfl (by omega) (by omega) (by omega) (by omega) (by omega) (by omega) 1 rfl (Nat.zero_le _) wx HM.out.a HM.out.s HM.out.f HM.out.m);have qS:wx.cell? ⟨sb,0,none⟩=some (.string ⟨s.toArray⟩):=HM.out.s.cell 0;obtain⟨zb,hzb⟩:∃zb,decide (∃h:2<s.length,(s[2]'h).toNat≠58)=zb:=⟨_,rfl⟩
 have HZB:=hid hzb;clear hzb;go_upto_region 5 with fail;go_cut [18] (fun s18 wy=>s18=.bool zb/\wy=wx)
 case first=>
  by_cases hlt:2<s.length
  ·have hltI:(2:Int)<(s.length:Int):=by omega
   obtain⟨b,hb⟩:∃b:Nat,(s[2]'hlt).toNat=b:=⟨_,rfl⟩
   have hbv:(((⟨s.toArray⟩:ByteArray)[2]'(by simpa[ByteArray.size]using hlt)).toNat:Int)=(b:Int):=by rw[<-hb];rfl
   by_cases h58:b=58
   ·have h58I:(b:Int)=58:=by omega
    have h58b:((b:Int)==58)=true:=by simpa using h58I
    obtain rfl:zb=false:=by rw[<-HZB.out];exact decide_eq_false (fun⟨_,e⟩=>e (hb.trans h58))
    clear hb h58;go_wp2;go_meet;exact⟨rfl,rfl⟩
   ·have h58I:¬(b:Int)=58:=by omega
    have h58b:((b:Int)==58)=false:=by simpa using h58I
    obtain rfl:zb=true:=by rw[<-HZB.out];exact decide_eq_true ⟨hlt,fun e=>h58 (hb.symm.trans e)⟩
    clear hb h58;go_wp2;go_meet;exact⟨by first|rfl|simp[h58I],rfl⟩
  ·have hltI:¬(2:Int)<(s.length:Int):=by omega
   obtain rfl:zb=false:=by rw[<-HZB.out];exact decide_eq_false (fun⟨h,_⟩=>hlt h)
   go_wp2;go_meet;exact⟨rfl,rfl⟩
 case rest=>
 obtain⟨rfl,hwc⟩:=hcut;rw[hwc];clear hwc qS;go_upto_if 18 with fail;go_cut [] (fun wy=>∃(f':Nat->Nat) (p' sh':Nat),p'<=s.length/\sh'<=1/\Hid (RMem s w sb rb mb ab fb sh' f' 0 0 p' wy)/\Hid (ClockT s sh' f' p' T/\f' 6=0/\f' 7=0))
 case first=>
  cases zb with
  |false=>
   have HCT:Hid (ClockT s 0 (fun _=>0) 0 T):=hid (by
    rw[HT.out];refine zrx (zgz (fun h2=>?_));have h:=of_decide_eq_false HZB.out;by_cases e:(s[2]'h2).toNat=58
    ·exact e
    ·exact absurd ⟨h2,e⟩ h)
   go_wp2;go_meet;exact⟨fun _=>0,0,0,Nat.zero_le _,by omega,HM,hid ⟨HCT.out,rfl,rfl⟩⟩
  |true=>
   have HNC:Hid (Gr.clockAt s 0=none):=hid (by
    obtain⟨h1,h2⟩:=of_decide_eq_true HZB.out;exact zf1 h1 h2)
   go_wp2_with fail;refine HFL.out.mono ?_;rintro e w4 ⟨hk,f',hm4,⟨rfl,hfl,hf0,ha4,hpl⟩|⟨rfl,hno,p4,hp4,ha4⟩⟩
   ·have HM4:Hid (RMem s w sb rb mb ab fb 0 f' 0 0 10 w4):=hid (HM.out.fld hk hm4 (by simpa[posAt]using ha4));have hpl10:10<=s.length:=by simpa[posAt]using hpl
    have HF:Hid (Gr.dateAt s=some (f' 0,f' 1,f' 2)/\(∀j,3<=j->f' j=0)):=hid ⟨zo9 hfl,fun j hj=>hf0 j (.inr (by omega))⟩;clear hk hm4 ha4 hfl hf0 hpl;have qM0:w4.cell? ⟨mb,0,none⟩=some (.int .i64 ((0:Nat):Int)):=HM4.out.m.cell 0;have qMF:∀j,w4.frozen? ⟨mb,j,none⟩=false:=HM4.out.m.frozen;go_upto_region 9 with fail;obtain⟨w5,hw5⟩:=ex (w4.setCell ⟨mb,0,none⟩ (.int .i64 1))
    have HM5:Hid (RMem s w sb rb mb ab fb 1 f' 0 0 10 w5):=hid (by rw[<-hw5];exact HM4.out.sh_ 1);(try rw[hw5]);clear qM0 qMF hw5 HM HFL;have qA:w5.cell? ⟨ab,0,none⟩=some (.int .i64 ((10:Nat):Int)):=HM5.out.a.cell 0;have qAF:∀j,w5.frozen? ⟨ab,j,none⟩=false:=HM5.out.a.frozen;have qS:w5.cell? ⟨sb,0,none⟩=some (.string ⟨s.toArray⟩):=HM5.out.s.cell 0;by_cases h10:s.length=10
    ·have h10b:((10:Int)==(s.length:Int))=true:=by rw[h10];rfl
     have HTS:Hid (T=some (mC 1 f' 0 (0:Nat))):=hid (by
      rw[HT.out];unfold rdT Gr.rd;rw[HF.out.1];simp only;rw[if_pos h10];show some _=some _
      congr 1
      exact zf0 (lt8 ⟨rfl,rfl,rfl,(HF.out.2 3 (by omega)).symm,(HF.out.2 4 (by omega)).symm,(HF.out.2 5 (by omega)).symm,(HF.out.2 6 (by omega)).symm,(HF.out.2 7 (by omega)).symm⟩))
     clear h10;obtain⟨m0,m1,m2,m3,m4,m5,m6,m7,m8,m9,m10⟩:=zae HM5.out.m;obtain⟨x0,x1,x2,x3,x4,x5,x6,x7,x8,x9,x10⟩:=zae HM5.out.r;have xf:∀j,w5.frozen? ⟨rb,j,none⟩=false:=HM5.out.r.frozen;go_wp2_with fail;clear h10b hpl10;have HSB:Blk (((((((((((w5.setCell ⟨rb,0,none⟩ (.int .i64 1)).setCell ⟨rb,1,none⟩ (.int .i64 (f' 0:Int))).setCell ⟨rb,2,none⟩ (.int .i64 (f' 1:Int))).setCell ⟨rb,3,none⟩ (.int .i64 (f' 2:Int))).setCell ⟨rb,4,none⟩ (.int .i64 (f' 3:Int))).setCell ⟨rb,5,none⟩ (.int .i64 (f' 4:Int))).setCell ⟨rb,6,none⟩ (.int .i64 (f' 5:Int))).setCell ⟨rb,7,none⟩ (.int .i64 (f' 6:Int))).setCell ⟨rb,8,none⟩ (.int .i64 (f' 7:Int))).setCell ⟨rb,9,none⟩ (.int .i64 0)).setCell ⟨rb,10,none⟩ (.int .u8 0)) rb 135 (mC 1 f' 0 (0:Nat)):=za0 HM5.out.r;obtain⟨e0,e1,e2,e3,e4,e5,e6,e7,e8,e9,e10⟩:=zae HSB;have HSH:Below w.heap.size w (((((((((((w5.setCell ⟨rb,0,none⟩ (.int .i64 1)).setCell ⟨rb,1,none⟩ (.int .i64 (f' 0:Int))).setCell ⟨rb,2,none⟩ (.int .i64 (f' 1:Int))).setCell ⟨rb,3,none⟩ (.int .i64 (f' 2:Int))).setCell ⟨rb,4,none⟩ (.int .i64 (f' 3:Int))).setCell ⟨rb,5,none⟩ (.int .i64 (f' 4:Int))).setCell ⟨rb,6,none⟩ (.int .i64 (f' 5:Int))).setCell ⟨rb,7,none⟩ (.int .i64 (f' 6:Int))).setCell ⟨rb,8,none⟩ (.int .i64 (f' 7:Int))).setCell ⟨rb,9,none⟩ (.int .i64 0)).setCell ⟨rb,10,none⟩ (.int .u8 0)):=zb4 HM5.out.b HM5.out.n;refine bodyPost_ret (v:=.tuple #[.agg #[.int .i64 1,.int .i64 (f' 0:Int),.int .i64 (f' 1:Int),.int .i64 (f' 2:Int),.int .i64 (f' 3:Int),.int .i64 (f' 4:Int),.int .i64 (f' 5:Int),.int .i64 (f' 6:Int),.int .i64 (f' 7:Int),.int .i64 0,.int .u8 0],.bool true]) (by rw[results_cell_tmp rfl];go_simp) rfl ?_;have HTN:=HTS.out;unfold RPost;rw[HTN];exact⟨HSH,1,f',0,(0:Nat),rfl,fun x hx=>(Option.some.inj hx).symm⟩
    ·have h10b:((10:Int)==(s.length:Int))=false:=by
      rw[Bool.eq_false_iff];intro e;have:=eq_of_beq e;omega
     have H10:=hid h10;have hlt:10<s.length:=by omega
     have hltI:(10:Int)<(s.length:Int):=by omega
     clear h10;obtain⟨b,hb⟩:∃b:Nat,(s[10]'hlt).toNat=b:=⟨_,rfl⟩
     have hbv:(((⟨s.toArray⟩:ByteArray)[10]'(by simpa[ByteArray.size]using hlt)).toNat:Int)=(b:Int):=by rw[<-hb];rfl
     have HB:=hid hb;clear hb;by_cases hsp:b=84\/b=32
     ·have HCT:Hid (ClockT s 1 f' 11 T/\f' 6=0/\f' 7=0):=hid (by
       rw[HT.out];refine⟨zry HF.out.1 H10.out ?_ (HF.out.2 6 (by omega)) (HF.out.2 7 (by omega)),HF.out.2 6 (by omega),HF.out.2 7 (by omega)⟩;rw[zbg hlt HB.out,zbg hlt HB.out];rcases hsp with rfl|rfl<;>rfl)
      have HM6:=hid (HM5.out.at_ 11);by_cases h84:b=84
      ·have i84:(b:Int)=84:=by omega
       have b84:((b:Int)==84)=true:=by simpa using i84
       clear hsp h84;go_wp2;go_meet;exact⟨f',11,1,by omega,by omega,HM6,HCT⟩
      ·have h32:b=32:=by omega
       have i84:¬(b:Int)=84:=by omega
       have b84:((b:Int)==84)=false:=by simpa using i84
       have i32:(b:Int)=32:=by omega
       have b32:((b:Int)==32)=true:=by simpa using i32
       clear hsp h84 h32;go_wp2;go_meet;exact⟨f',11,1,by omega,by omega,HM6,HCT⟩
     ·have i84:¬(b:Int)=84:=by omega
      have b84:((b:Int)==84)=false:=by simpa using i84
      have i32:¬(b:Int)=32:=by omega
      have b32:((b:Int)==32)=false:=by simpa using i32
      have n84:((b:Int) != 84)=true:=by rw[bne,b84];rfl
      have n32:((b:Int) != 32)=true:=by rw[bne,b32];rfl
      have HTN0:Hid (T=none):=hid (by
       rw[HT.out];unfold rdT Gr.rd;rw[HF.out.1];simp only;rw[if_neg H10.out,if_neg]
       ·rfl
       ·rw[zbg hlt HB.out,zbg hlt HB.out];simp;omega)
      clear hsp;obtain⟨m0,m1,m2,m3,m4,m5,m6,m7,m8,m9,m10⟩:=zae HM5.out.m;obtain⟨x0,x1,x2,x3,x4,x5,x6,x7,x8,x9,x10⟩:=zae HM5.out.r;have xf:∀j,w5.frozen? ⟨rb,j,none⟩=false:=HM5.out.r.frozen;go_wp2_with fail;have HSB:Blk (((((((((((w5.setCell ⟨rb,0,none⟩ (.int .i64 1)).setCell ⟨rb,1,none⟩ (.int .i64 (f' 0:Int))).setCell ⟨rb,2,none⟩ (.int .i64 (f' 1:Int))).setCell ⟨rb,3,none⟩ (.int .i64 (f' 2:Int))).setCell ⟨rb,4,none⟩ (.int .i64 (f' 3:Int))).setCell ⟨rb,5,none⟩ (.int .i64 (f' 4:Int))).setCell ⟨rb,6,none⟩ (.int .i64 (f' 5:Int))).setCell ⟨rb,7,none⟩ (.int .i64 (f' 6:Int))).setCell ⟨rb,8,none⟩ (.int .i64 (f' 7:Int))).setCell ⟨rb,9,none⟩ (.int .i64 0)).setCell ⟨rb,10,none⟩ (.int .u8 0)) rb 135 (mC 1 f' 0 (0:Nat)):=za0 HM5.out.r;obtain⟨e0,e1,e2,e3,e4,e5,e6,e7,e8,e9,e10⟩:=zae HSB;have HSH:Below w.heap.size w (((((((((((w5.setCell ⟨rb,0,none⟩ (.int .i64 1)).setCell ⟨rb,1,none⟩ (.int .i64 (f' 0:Int))).setCell ⟨rb,2,none⟩ (.int .i64 (f' 1:Int))).setCell ⟨rb,3,none⟩ (.int .i64 (f' 2:Int))).setCell ⟨rb,4,none⟩ (.int .i64 (f' 3:Int))).setCell ⟨rb,5,none⟩ (.int .i64 (f' 4:Int))).setCell ⟨rb,6,none⟩ (.int .i64 (f' 5:Int))).setCell ⟨rb,7,none⟩ (.int .i64 (f' 6:Int))).setCell ⟨rb,8,none⟩ (.int .i64 (f' 7:Int))).setCell ⟨rb,9,none⟩ (.int .i64 0)).setCell ⟨rb,10,none⟩ (.int .u8 0)):=zb4 HM5.out.b HM5.out.n;refine bodyPost_ret (v:=.tuple #[.agg #[.int .i64 1,.int .i64 (f' 0:Int),.int .i64 (f' 1:Int),.int .i64 (f' 2:Int),.int .i64 (f' 3:Int),.int .i64 (f' 4:Int),.int .i64 (f' 5:Int),.int .i64 (f' 6:Int),.int .i64 (f' 7:Int),.int .i64 0,.int .u8 0],.bool false]) (by rw[results_cell_tmp rfl];go_simp) rfl ?_;have HTN:T=none:=HTN0.out;unfold RPost;rw[HTN];exact⟨HSH,1,f',0,(0:Nat),rfl,fun x hx=>by cases hx⟩
   ·have HM4:Hid (RMem s w sb rb mb ab fb 0 f' 0 0 p4 w4):=hid (HM.out.fld hk hm4 ha4);have HTN0:Hid (T=none):=hid (by
     rw[HT.out];unfold rdT Gr.rd;rw[zka hno];simp only;rw[HNC.out];rfl)
    clear hk hm4 ha4 hno;obtain⟨m0,m1,m2,m3,m4,m5,m6,m7,m8,m9,m10⟩:=zae HM4.out.m;obtain⟨x0,x1,x2,x3,x4,x5,x6,x7,x8,x9,x10⟩:=zae HM4.out.r;have xf:∀j,w4.frozen? ⟨rb,j,none⟩=false:=HM4.out.r.frozen;go_wp2_with fail;have HSB:Blk (((((((((((w4.setCell ⟨rb,0,none⟩ (.int .i64 ((0:Nat):Int))).setCell ⟨rb,1,none⟩ (.int .i64 (f' 0:Int))).setCell ⟨rb,2,none⟩ (.int .i64 (f' 1:Int))).setCell ⟨rb,3,none⟩ (.int .i64 (f' 2:Int))).setCell ⟨rb,4,none⟩ (.int .i64 (f' 3:Int))).setCell ⟨rb,5,none⟩ (.int .i64 (f' 4:Int))).setCell ⟨rb,6,none⟩ (.int .i64 (f' 5:Int))).setCell ⟨rb,7,none⟩ (.int .i64 (f' 6:Int))).setCell ⟨rb,8,none⟩ (.int .i64 (f' 7:Int))).setCell ⟨rb,9,none⟩ (.int .i64 ((0:Nat):Int))).setCell ⟨rb,10,none⟩ (.int .u8 ((0:Nat):Int))) rb 135 (mC 0 f' 0 (0:Nat)):=za0 HM4.out.r;obtain⟨e0,e1,e2,e3,e4,e5,e6,e7,e8,e9,e10⟩:=zae HSB;have HSH:Below w.heap.size w (((((((((((w4.setCell ⟨rb,0,none⟩ (.int .i64 ((0:Nat):Int))).setCell ⟨rb,1,none⟩ (.int .i64 (f' 0:Int))).setCell ⟨rb,2,none⟩ (.int .i64 (f' 1:Int))).setCell ⟨rb,3,none⟩ (.int .i64 (f' 2:Int))).setCell ⟨rb,4,none⟩ (.int .i64 (f' 3:Int))).setCell ⟨rb,5,none⟩ (.int .i64 (f' 4:Int))).setCell ⟨rb,6,none⟩ (.int .i64 (f' 5:Int))).setCell ⟨rb,7,none⟩ (.int .i64 (f' 6:Int))).setCell ⟨rb,8,none⟩ (.int .i64 (f' 7:Int))).setCell ⟨rb,9,none⟩ (.int .i64 ((0:Nat):Int))).setCell ⟨rb,10,none⟩ (.int .u8 ((0:Nat):Int))):=zb4 HM4.out.b HM4.out.n;refine bodyPost_ret (v:=.tuple #[.agg #[.int .i64 ((0:Nat):Int),.int .i64 (f' 0:Int),.int .i64 (f' 1:Int),.int .i64 (f' 2:Int),.int .i64 (f' 3:Int),.int .i64 (f' 4:Int),.int .i64 (f' 5:Int),.int .i64 (f' 6:Int),.int .i64 (f' 7:Int),.int .i64 ((0:Nat):Int),.int .u8 ((0:Nat):Int)],.bool false]) (by rw[results_cell_tmp rfl];go_simp) rfl ?_;have HTN:T=none:=HTN0.out;unfold RPost;rw[HTN];exact⟨HSH,0,f',0,(0:Nat),rfl,fun x hx=>by cases hx⟩
 case rest=>
 obtain⟨f',p',sh',hp',hsh',HM',HT'⟩:=hcut;refine(‹∀(a:Act) (w_1:World),Code.wp prog _ _ a w_1->_›) _ _ ?_;exact zpc s hl w _ sb rb mb ab fb sh' f' p' T HM' hp' hsh' HT'
end Go.Proofs.YtoigpackhninoaaGreatDoor

import Derived.Test.YtpgmfihonmoliaaGreatDoorZ22
namespace Go.Proofs.YtpgmfihonmoliaaGreatDoor
open _root_.Go.Proofs.Tryz
open _root_.Go.Lib (hid)
set_option maxRecDepth 100000
set_option maxHeartbeats 16000000
open Go.RowKit
theorem zwa (s:Gr.Str) (hl:s.length<=1073741823) (w wx:World) (sb rb mb ab fb:Nat) (T:Option (Array Value)) (HM:Hid (RMem s w sb rb mb ab fb 0 (fun _=>0) 0 0 0 wx)) (HT:Hid (T=rdT s)) {u3 u8 u9 u10 u11 u12 u13 u14 u15 u16 u17 u18 u19 u20 u21 u22 u23 u24 u25 u26 u27 u28 u29 u30 u31 u32 u33 u34 u35 u36 u37 u38 u39 u40 u41 u42 u43 u44 u45 u46 u47 u48 u49 u50 u51 u52 u53 u54 u55 u56 u57 u58 u59 u60 u61 u62 u63 u64 u65 u66 u67 u68 u69 u70 u71 u72 u73 u74 u75 u76 u77 u78 u79 u80 u81 u82 u83 u84 u85 u86 u87 u88 u89 u90 u91 u92 u93 u94 u95 u96 u97 u98 u99 u100 u101 u102 u103 u104 u105 u106 u107 u108 u109 u110 u111 u112 u113 u114 u115 u116 u117 u118 u119 u120 u121 u122 u123 u124 u125 u126 u127 u128 u129 u130 u131 u132 u133 u134 u135 u136 u137 u138 u139 u140 u141 u142 u143 u144 u145 u146 u147 u148 u149 u150 u151 u152 u153 u154:Value}:
 Code.wp prog (tl 5 (f58.body.getD .skip)) (bodyPost prog f58 (RPost T w)) {tmps:=List.toArray (.string ⟨s.toArray⟩::.pointer (some ⟨sb,0,none⟩)::.pointer (some ⟨rb,0,none⟩)::u3::.pointer (some ⟨mb,0,none⟩)::.pointer (some ⟨ab,0,none⟩)::.pointer (some ⟨fb,0,none⟩)::.func (.func 90) #[] #[.pointer (some ⟨ab,0,none⟩),.pointer (some ⟨sb,0,none⟩),.pointer (some ⟨fb,0,none⟩)]::u8::u9::u10::u11::u12::u13::u14::u15::u16::u17::u18::u19::u20::u21::u22::u23::u24::u25::u26::u27::u28::u29::u30::u31::u32::u33::u34::u35::u36::u37::u38::u39::u40::u41::u42::u43::u44::u45::u46::u47::u48::u49::u50::u51::u52::u53::u54::u55::u56::u57::u58::u59::u60::u61::u62::u63::u64::u65::u66::u67::u68::u69::u70::u71::u72::u73::u74::u75::u76::u77::u78::u79::u80::u81::u82::u83::u84::u85::u86::u87::u88::u89::u90::u91::u92::u93::u94::u95::u96::u97::u98::u99::u100::u101::u102::u103::u104::u105::u106::u107::u108::u109::u110::u111::u112::u113::u114::u115::u116::u117::u118::u119::u120::u121::u122::u123::u124::u125::u126::u127::u128::u129::u130::u131::u132::u133::u134::u135::u136::u137::u138::u139::u140::u141::u142::u143::u144::u145::u146::u147::u148::u149::u150::u151::u152::u153::u154::[]),defers:=[]} wx:=by
 generalize hc0:tl 5 (f58.body.getD .skip)=c0;simp only[tl,f58,Option.getD_some]at hc0;subst hc0;have Q:=hid (zd1 s hl ab sb fb mb 0 4 45 0 3 8 0 (fun _=>0) 0 0 4 45 rfl rfl (by omega) (by omega) (by omega) (by omega) (by omega) (by omega) 1 rfl (Nat.zero_le _) wx HM.out.a HM.out.s HM.out.f HM.out.m);have qS:wx.cell? ⟨sb,0,none⟩=some (.string ⟨s.toArray⟩):=HM.out.s.cell 0;obtain⟨F,W⟩:∃F,decide (∃h:2<s.length,(s[2]'h).toNat≠58)=F:=⟨_,rfl⟩
 have k:=hid W;clear W;go_upto_region 5 with fail;go_cut [18] (fun s18 wy=>s18=.bool F/\wy=wx)
 case first=>
  by_cases hlt:2<s.length
  .have D:(2:Int)<(s.length:Int):=by omega
   obtain⟨b,A⟩:∃b:Nat,(s[2]'hlt).toNat=b:=⟨_,rfl⟩
   have aj:(((⟨s.toArray⟩:ByteArray)[2]'(by simpa[ByteArray.size]using hlt)).toNat:Int)=(b:Int):=by rw[<-A];rfl
   by_cases h58:b=58
   .have g:(b:Int)=58:=by omega
    have S:((b:Int)==58)=true:=by simpa using g
    obtain rfl:F=false:=by rw[<-k.out];exact decide_eq_false (fun⟨_,e⟩=>e (A.trans h58))
    clear A h58;go_wp2;go_meet;exact⟨rfl,rfl⟩
   .have g:¬(b:Int)=58:=by omega
    have S:((b:Int)==58)=false:=by simpa using g
    obtain rfl:F=true:=by rw[<-k.out];exact decide_eq_true ⟨hlt,fun e=>h58 (A.symm.trans e)⟩
    clear A h58;go_wp2;go_meet;exact⟨by first|rfl|simp[g],rfl⟩
  .have D:¬(2:Int)<(s.length:Int):=by omega
   obtain rfl:F=false:=by rw[<-k.out];exact decide_eq_false (fun⟨h,_⟩=>hlt h)
   go_wp2;go_meet;exact⟨rfl,rfl⟩
 case rest=>
 obtain⟨rfl,X⟩:=hcut;rw[X];clear X qS;go_upto_if 18 with fail;go_cut [] (fun wy=>∃(f':Nat->Nat) (p' sh':Nat),p'<=s.length/\sh'<=1/\Hid (RMem s w sb rb mb ab fb sh' f' 0 0 p' wy)/\Hid (ClockT s sh' f' p' T/\f' 6=0/\f' 7=0))
 case first=>
  cases F with
  |false=>
   have B:Hid (ClockT s 0 (fun _=>0) 0 T):=hid (by
    rw[HT.out];refine zv8 (zir (fun h2=>?_));have h:=of_decide_eq_false k.out;by_cases e:(s[2]'h2).toNat=58
    .exact e
    .exact absurd ⟨h2,e⟩ h)
   go_wp2;go_meet;exact⟨fun _=>0,0,0,Nat.zero_le _,by omega,HM,hid ⟨B.out,rfl,rfl⟩⟩
  |true=>
   have ad:Hid (Gr.clockAt s 0=none):=hid (by
    obtain⟨h1,h2⟩:=of_decide_eq_true k.out;exact zha h1 h2)
   go_wp2_with fail;refine Q.out.mono ?_;rintro e C ⟨hk,f',z,⟨rfl,O,L,t,U⟩|⟨rfl,hno,p4,hp4,t⟩⟩
   .have d:Hid (RMem s w sb rb mb ab fb 0 f' 0 0 10 C):=hid (HM.out.fld hk z (by simpa[posAt]using t));have G:10<=s.length:=by simpa[posAt]using U
    have i:Hid (Gr.dateAt s=some (f' 0,f' 1,f' 2)/\(∀j,3<=j->f' j=0)):=hid ⟨zs8 O,fun j hj=>L j (.inr (by omega))⟩;clear hk z t O L U;have ac:C.cell? ⟨mb,0,none⟩=some (.int .i64 ((0:Nat):Int)):=d.out.m.cell 0;have af:∀j,C.frozen? ⟨mb,j,none⟩=false:=d.out.m.frozen;go_upto_region 9 with fail;obtain⟨y,H⟩:=ex (C.setCell ⟨mb,0,none⟩ (.int .i64 1))
    have c:Hid (RMem s w sb rb mb ab fb 1 f' 0 0 10 y):=hid (by rw[<-H];exact d.out.sh_ 1);(try rw[H]);clear ac af H HM Q;have qA:y.cell? ⟨ab,0,none⟩=some (.int .i64 ((10:Nat):Int)):=c.out.a.cell 0;have qAF:∀j,y.frozen? ⟨ab,j,none⟩=false:=c.out.a.frozen;have qS:y.cell? ⟨sb,0,none⟩=some (.string ⟨s.toArray⟩):=c.out.s.cell 0;by_cases h10:s.length=10
    .have E:((10:Int)==(s.length:Int))=true:=by rw[h10];rfl
     have ae:Hid (T=some (mC 1 f' 0 (0:Nat))):=hid (by
      rw[HT.out];unfold rdT Gr.rd;rw[i.out.1];simp only;rw[if_pos h10];show some _=some _
      congr 1
      exact zg9 (lt8 ⟨rfl,rfl,rfl,(i.out.2 3 (by omega)).symm,(i.out.2 4 (by omega)).symm,(i.out.2 5 (by omega)).symm,(i.out.2 6 (by omega)).symm,(i.out.2 7 (by omega)).symm⟩))
     clear h10;obtain⟨m0,m1,m2,m3,m4,m5,m6,m7,m8,m9,K⟩:=zag c.out.m;obtain⟨x0,x1,x2,x3,x4,x5,x6,x7,x8,x9,N⟩:=zag c.out.r;have xf:∀j,y.frozen? ⟨rb,j,none⟩=false:=c.out.r.frozen;go_wp2_with fail;clear E G;have o:Blk (((((((((((y.setCell ⟨rb,0,none⟩ (.int .i64 1)).setCell ⟨rb,1,none⟩ (.int .i64 (f' 0:Int))).setCell ⟨rb,2,none⟩ (.int .i64 (f' 1:Int))).setCell ⟨rb,3,none⟩ (.int .i64 (f' 2:Int))).setCell ⟨rb,4,none⟩ (.int .i64 (f' 3:Int))).setCell ⟨rb,5,none⟩ (.int .i64 (f' 4:Int))).setCell ⟨rb,6,none⟩ (.int .i64 (f' 5:Int))).setCell ⟨rb,7,none⟩ (.int .i64 (f' 6:Int))).setCell ⟨rb,8,none⟩ (.int .i64 (f' 7:Int))).setCell ⟨rb,9,none⟩ (.int .i64 0)).setCell ⟨rb,10,none⟩ (.int .u8 0)) rb 96 (mC 1 f' 0 (0:Nat)):=zbb c.out.r;obtain⟨e0,e1,e2,e3,e4,e5,e6,e7,e8,e9,Z⟩:=zag o;have q:Below w.heap.size w (((((((((((y.setCell ⟨rb,0,none⟩ (.int .i64 1)).setCell ⟨rb,1,none⟩ (.int .i64 (f' 0:Int))).setCell ⟨rb,2,none⟩ (.int .i64 (f' 1:Int))).setCell ⟨rb,3,none⟩ (.int .i64 (f' 2:Int))).setCell ⟨rb,4,none⟩ (.int .i64 (f' 3:Int))).setCell ⟨rb,5,none⟩ (.int .i64 (f' 4:Int))).setCell ⟨rb,6,none⟩ (.int .i64 (f' 5:Int))).setCell ⟨rb,7,none⟩ (.int .i64 (f' 6:Int))).setCell ⟨rb,8,none⟩ (.int .i64 (f' 7:Int))).setCell ⟨rb,9,none⟩ (.int .i64 0)).setCell ⟨rb,10,none⟩ (.int .u8 0)):=zco c.out.b c.out.n;refine bodyPost_ret (v:=.tuple #[.agg #[.int .i64 1,.int .i64 (f' 0:Int),.int .i64 (f' 1:Int),.int .i64 (f' 2:Int),.int .i64 (f' 3:Int),.int .i64 (f' 4:Int),.int .i64 (f' 5:Int),.int .i64 (f' 6:Int),.int .i64 (f' 7:Int),.int .i64 0,.int .u8 0],.bool true]) (by rw[results_cell_tmp rfl];go_simp) rfl ?_;have p:=ae.out;unfold RPost;rw[p];exact⟨q,1,f',0,(0:Nat),rfl,fun x V=>(Option.some.inj V).symm⟩
    .have E:((10:Int)==(s.length:Int))=false:=by
      rw[Bool.eq_false_iff];intro e;have:=eq_of_beq e;omega
     have P:=hid h10;have hlt:10<s.length:=by omega
     have D:(10:Int)<(s.length:Int):=by omega
     clear h10;obtain⟨b,A⟩:∃b:Nat,(s[10]'hlt).toNat=b:=⟨_,rfl⟩
     have aj:(((⟨s.toArray⟩:ByteArray)[10]'(by simpa[ByteArray.size]using hlt)).toNat:Int)=(b:Int):=by rw[<-A];rfl
     have HB:=hid A;clear A;by_cases hsp:b=84\/b=32
     .have B:Hid (ClockT s 1 f' 11 T/\f' 6=0/\f' 7=0):=hid (by
       rw[HT.out];refine⟨zv9 i.out.1 P.out ?_ (i.out.2 6 (by omega)) (i.out.2 7 (by omega)),i.out.2 6 (by omega),i.out.2 7 (by omega)⟩;rw[zbt hlt HB.out,zbt hlt HB.out];rcases hsp with rfl|rfl<;>rfl)
      have Y:=hid (c.out.at_ 11);by_cases h84:b=84
      .have u:(b:Int)=84:=by omega
       have J:((b:Int)==84)=true:=by simpa using u
       clear hsp h84;go_wp2;go_meet;exact⟨f',11,1,by omega,by omega,Y,B⟩
      .have aa:b=32:=by omega
       have u:¬(b:Int)=84:=by omega
       have J:((b:Int)==84)=false:=by simpa using u
       have I:(b:Int)=32:=by omega
       have M:((b:Int)==32)=true:=by simpa using I
       clear hsp h84 aa;go_wp2;go_meet;exact⟨f',11,1,by omega,by omega,Y,B⟩
     .have u:¬(b:Int)=84:=by omega
      have J:((b:Int)==84)=false:=by simpa using u
      have I:¬(b:Int)=32:=by omega
      have M:((b:Int)==32)=false:=by simpa using I
      have n84:((b:Int) != 84)=true:=by rw[bne,J];rfl
      have n32:((b:Int) != 32)=true:=by rw[bne,M];rfl
      have l:Hid (T=none):=hid (by
       rw[HT.out];unfold rdT Gr.rd;rw[i.out.1];simp only;rw[if_neg P.out,if_neg]
       .rfl
       .rw[zbt hlt HB.out,zbt hlt HB.out];simp;omega)
      clear hsp;obtain⟨m0,m1,m2,m3,m4,m5,m6,m7,m8,m9,K⟩:=zag c.out.m;obtain⟨x0,x1,x2,x3,x4,x5,x6,x7,x8,x9,N⟩:=zag c.out.r;have xf:∀j,y.frozen? ⟨rb,j,none⟩=false:=c.out.r.frozen;go_wp2_with fail;have o:Blk (((((((((((y.setCell ⟨rb,0,none⟩ (.int .i64 1)).setCell ⟨rb,1,none⟩ (.int .i64 (f' 0:Int))).setCell ⟨rb,2,none⟩ (.int .i64 (f' 1:Int))).setCell ⟨rb,3,none⟩ (.int .i64 (f' 2:Int))).setCell ⟨rb,4,none⟩ (.int .i64 (f' 3:Int))).setCell ⟨rb,5,none⟩ (.int .i64 (f' 4:Int))).setCell ⟨rb,6,none⟩ (.int .i64 (f' 5:Int))).setCell ⟨rb,7,none⟩ (.int .i64 (f' 6:Int))).setCell ⟨rb,8,none⟩ (.int .i64 (f' 7:Int))).setCell ⟨rb,9,none⟩ (.int .i64 0)).setCell ⟨rb,10,none⟩ (.int .u8 0)) rb 96 (mC 1 f' 0 (0:Nat)):=zbb c.out.r;obtain⟨e0,e1,e2,e3,e4,e5,e6,e7,e8,e9,Z⟩:=zag o;have q:Below w.heap.size w (((((((((((y.setCell ⟨rb,0,none⟩ (.int .i64 1)).setCell ⟨rb,1,none⟩ (.int .i64 (f' 0:Int))).setCell ⟨rb,2,none⟩ (.int .i64 (f' 1:Int))).setCell ⟨rb,3,none⟩ (.int .i64 (f' 2:Int))).setCell ⟨rb,4,none⟩ (.int .i64 (f' 3:Int))).setCell ⟨rb,5,none⟩ (.int .i64 (f' 4:Int))).setCell ⟨rb,6,none⟩ (.int .i64 (f' 5:Int))).setCell ⟨rb,7,none⟩ (.int .i64 (f' 6:Int))).setCell ⟨rb,8,none⟩ (.int .i64 (f' 7:Int))).setCell ⟨rb,9,none⟩ (.int .i64 0)).setCell ⟨rb,10,none⟩ (.int .u8 0)):=zco c.out.b c.out.n;refine bodyPost_ret (v:=.tuple #[.agg #[.int .i64 1,.int .i64 (f' 0:Int),.int .i64 (f' 1:Int),.int .i64 (f' 2:Int),.int .i64 (f' 3:Int),.int .i64 (f' 4:Int),.int .i64 (f' 5:Int),.int .i64 (f' 6:Int),.int .i64 (f' 7:Int),.int .i64 0,.int .u8 0],.bool false]) (by rw[results_cell_tmp rfl];go_simp) rfl ?_;have p:T=none:=l.out;unfold RPost;rw[p];exact⟨q,1,f',0,(0:Nat),rfl,fun x V=>by cases V⟩
   .have d:Hid (RMem s w sb rb mb ab fb 0 f' 0 0 p4 C):=hid (HM.out.fld hk z t);have l:Hid (T=none):=hid (by
     rw[HT.out];unfold rdT Gr.rd;rw[zmq hno];simp only;rw[ad.out];rfl)
    clear hk z t hno;obtain⟨m0,m1,m2,m3,m4,m5,m6,m7,m8,m9,K⟩:=zag d.out.m;obtain⟨x0,x1,x2,x3,x4,x5,x6,x7,x8,x9,N⟩:=zag d.out.r;have xf:∀j,C.frozen? ⟨rb,j,none⟩=false:=d.out.r.frozen;go_wp2_with fail;have o:Blk (((((((((((C.setCell ⟨rb,0,none⟩ (.int .i64 ((0:Nat):Int))).setCell ⟨rb,1,none⟩ (.int .i64 (f' 0:Int))).setCell ⟨rb,2,none⟩ (.int .i64 (f' 1:Int))).setCell ⟨rb,3,none⟩ (.int .i64 (f' 2:Int))).setCell ⟨rb,4,none⟩ (.int .i64 (f' 3:Int))).setCell ⟨rb,5,none⟩ (.int .i64 (f' 4:Int))).setCell ⟨rb,6,none⟩ (.int .i64 (f' 5:Int))).setCell ⟨rb,7,none⟩ (.int .i64 (f' 6:Int))).setCell ⟨rb,8,none⟩ (.int .i64 (f' 7:Int))).setCell ⟨rb,9,none⟩ (.int .i64 ((0:Nat):Int))).setCell ⟨rb,10,none⟩ (.int .u8 ((0:Nat):Int))) rb 96 (mC 0 f' 0 (0:Nat)):=zbb d.out.r;obtain⟨e0,e1,e2,e3,e4,e5,e6,e7,e8,e9,Z⟩:=zag o;have q:Below w.heap.size w (((((((((((C.setCell ⟨rb,0,none⟩ (.int .i64 ((0:Nat):Int))).setCell ⟨rb,1,none⟩ (.int .i64 (f' 0:Int))).setCell ⟨rb,2,none⟩ (.int .i64 (f' 1:Int))).setCell ⟨rb,3,none⟩ (.int .i64 (f' 2:Int))).setCell ⟨rb,4,none⟩ (.int .i64 (f' 3:Int))).setCell ⟨rb,5,none⟩ (.int .i64 (f' 4:Int))).setCell ⟨rb,6,none⟩ (.int .i64 (f' 5:Int))).setCell ⟨rb,7,none⟩ (.int .i64 (f' 6:Int))).setCell ⟨rb,8,none⟩ (.int .i64 (f' 7:Int))).setCell ⟨rb,9,none⟩ (.int .i64 ((0:Nat):Int))).setCell ⟨rb,10,none⟩ (.int .u8 ((0:Nat):Int))):=zco d.out.b d.out.n;refine bodyPost_ret (v:=.tuple #[.agg #[.int .i64 ((0:Nat):Int),.int .i64 (f' 0:Int),.int .i64 (f' 1:Int),.int .i64 (f' 2:Int),.int .i64 (f' 3:Int),.int .i64 (f' 4:Int),.int .i64 (f' 5:Int),.int .i64 (f' 6:Int),.int .i64 (f' 7:Int),.int .i64 ((0:Nat):Int),.int .u8 ((0:Nat):Int)],.bool false]) (by rw[results_cell_tmp rfl];go_simp) rfl ?_;have p:T=none:=l.out;unfold RPost;rw[p];exact⟨q,0,f',0,(0:Nat),rfl,fun x V=>by cases V⟩
 case rest=>
 obtain⟨f',p',sh',ag,R,ai,ah⟩:=hcut;refine(‹∀(a:Act) (w_1:World),Code.wp prog _ _ a w_1->_›) _ _ ?_;exact ztb s hl w _ sb rb mb ab fb sh' f' p' T ai ag R ah
end Go.Proofs.YtpgmfihonmoliaaGreatDoor

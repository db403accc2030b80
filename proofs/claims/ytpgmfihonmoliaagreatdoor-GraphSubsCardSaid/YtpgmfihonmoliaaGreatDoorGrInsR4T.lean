import Derived.Test.YtpgmfihonmoliaaGreatDoorZ06
namespace Go.Proofs.YtpgmfihonmoliaaGreatDoor
open Gr
open _root_.Go.Proofs.Tryz
open _root_.Go.Lib (hid)
set_option maxRecDepth 100000
set_option maxHeartbeats 16000000
open Go.RowKit
theorem zcc {B g:Nat} {w0 w:World} (h:Below B w0 w) (hg:B<=g) {v0 v1 v2 v3 v4 v5 v6 v7 v8 v9 v10 v11:Value}:Below B w0 ((((((((((((w.setCell ⟨g,0,none⟩ v0).setCell ⟨g,1,none⟩ v1).setCell ⟨g,2,none⟩ v2).setCell ⟨g,3,none⟩ v3).setCell ⟨g,4,none⟩ v4).setCell ⟨g,5,none⟩ v5).setCell ⟨g,6,none⟩ v6).setCell ⟨g,7,none⟩ v7).setCell ⟨g,8,none⟩ v8).setCell ⟨g,9,none⟩ v9).setCell ⟨g,10,none⟩ v10).setCell ⟨g,11,none⟩ v11):=
 ((((((((((((h.setCell (p:=⟨g,0,none⟩) hg v0).setCell (p:=⟨g,1,none⟩) hg v1).setCell (p:=⟨g,2,none⟩) hg v2).setCell (p:=⟨g,3,none⟩) hg v3).setCell (p:=⟨g,4,none⟩) hg v4).setCell (p:=⟨g,5,none⟩) hg v5).setCell (p:=⟨g,6,none⟩) hg v6).setCell (p:=⟨g,7,none⟩) hg v7).setCell (p:=⟨g,8,none⟩) hg v8).setCell (p:=⟨g,9,none⟩) hg v9).setCell (p:=⟨g,10,none⟩) hg v10).setCell (p:=⟨g,11,none⟩) hg v11)
theorem zbc {w:World} {g:Nat} {t:TypeId} {c0 c1 c2 c3 c4 c5 c6 c7 c8 c9 c10 c11 v0 v1 v2 v3 v4 v5 v6 v7 v8 v9 v10 v11:Value} (h:Blk w g t #[c0,c1,c2,c3,c4,c5,c6,c7,c8,c9,c10,c11]):Blk ((((((((((((w.setCell ⟨g,0,none⟩ v0).setCell ⟨g,1,none⟩ v1).setCell ⟨g,2,none⟩ v2).setCell ⟨g,3,none⟩ v3).setCell ⟨g,4,none⟩ v4).setCell ⟨g,5,none⟩ v5).setCell ⟨g,6,none⟩ v6).setCell ⟨g,7,none⟩ v7).setCell ⟨g,8,none⟩ v8).setCell ⟨g,9,none⟩ v9).setCell ⟨g,10,none⟩ v10).setCell ⟨g,11,none⟩ v11) g t #[v0,v1,v2,v3,v4,v5,v6,v7,v8,v9,v10,v11]:=by
 have a:=((((((((((((h.set_ 0 v0).set_ 1 v1).set_ 2 v2).set_ 3 v3).set_ 4 v4).set_ 5 v5).set_ 6 v6).set_ 7 v7).set_ 8 v8).set_ 9 v9).set_ 10 v10).set_ 11 v11)
 simp only[List.setIfInBounds_toArray,List.set_cons_zero,List.set_cons_succ]at a;exact a
theorem zmv (s:Gr.Str) (_hl:s.length<=1073741823) (a:Nat) (ha:a<=1073741824) (date:Bool) (Y M D H N0 C:Int) (w wr:World) (gb:Nat)
 (HGO:Hid (∀(r:Int) (ok:Bool) (n:Int) (w':World),Below w.heap.size w w'->(clockAt s a=none/\r=-1\/∃h m c f t:Nat,clockAt s a=some ⟨h,m,c,f,t⟩/\r=(t:Int)/\ok=true/\H=h/\N0=m/\C=c/\n=f)->zbf s a date Y M D w (.returned (.tuple #[.agg #[.bool date,.bool ok,.bool false,.int .i64 Y,.int .i64 M,.int .i64 D,.int .i64 H,.int .i64 N0,.int .i64 C,.int .i64 n,.int .i64 0,.bool false],.int .i64 r])) w'))
 (HF:Hid (∃h m c:Nat,numAt s a 2=some h/\numAt s (a+3) 2=some m/\numAt s (a+6) 2=some c/\H=h/\N0=m/\C=c)) (HP:Hid (isAt s (a+2) 58=true/\isAt s (a+5) 58=true/\isAt s (a+8) 46=true)) (HGB:Hid (w.heap.size=gb)) (n F U:Nat) (_hn:n<=s.length) (_hF:F<=999999999)
 (HV:Hid ((∀h2:a+9+n<s.length,Gr.dig (s[a+9+n]'h2)=false)/\Frac s (a+9) n F U/\Blk wr gb 147 (T12 date true false Y M D H N0 C (F:Int) 0 false)/\Blk wr (gb+1) 147 (T12 false false false 0 0 0 0 0 0 0 0 false)/\Below gb w wr))
 {u2 u3 u4 u7 u9 u10 u11 u12 u13 u14 u15 u16 u17 u18 u19 u20 u21 u22 u23 u24 u25 u26 u27 u28 u29 u30 u31 u32 u33 u34 u35 u36 u37 u38 u39 u40 u41 u42 u43 u44 u45 u46 u47 u48 u49 u50 u51 u52 u53 u54 u55 u56 u57 u58 u59 u60 u61 u62 u63 u64 u65 u66 u67 u68 u69 u70 u71 u72 u73 u74 u75 u76 u77 u78 u79 u80 u81 u82 u83 u84 u85 u86 u87 u88 u89 u90 u91 u92 u93 u94 u95 u96 u97 u98 u99 u100 u101 u102 u103 u104 u105 u106 u107 u108 u109 u110 u111 u112 u113 u114 u115:Value}:
 Code.wp prog (tl 9 (f163.body.getD .skip)) (bodyPost prog f163 (zbf s a date Y M D w)) {tmps:=List.toArray (.string ⟨s.toArray⟩::.int .i64 ((a:Int)+8)::u2::u3::u4::.pointer (some ⟨gb,0,none⟩)::.pointer (some ⟨gb+1,0,none⟩)::u7::.int .i64 (n:Int)::u9::u10::u11::u12::u13::u14::u15::u16::u17::u18::u19::u20::u21::u22::u23::u24::u25::u26::u27::u28::u29::u30::u31::u32::u33::u34::u35::u36::u37::u38::u39::u40::u41::u42::u43::u44::u45::u46::u47::u48::u49::u50::u51::u52::u53::u54::u55::u56::u57::u58::u59::u60::u61::u62::u63::u64::u65::u66::u67::u68::u69::u70::u71::u72::u73::u74::u75::u76::u77::u78::u79::u80::u81::u82::u83::u84::u85::u86::u87::u88::u89::u90::u91::u92::u93::u94::u95::u96::u97::u98::u99::u100::u101::u102::u103::u104::u105::u106::u107::u108::u109::u110::u111::u112::u113::u114::u115::[]),defers:=[]} wr:=by
 generalize hc0:tl 9 (f163.body.getD .skip)=c0;simp only[tl,f163,Option.getD_some]at hc0;subst hc0;have o:Hid (∃h m c:Nat,clockAt s a=(if n<1\/9<n then none else some ⟨h,m,c,F,a+9+n⟩)/\H=h/\N0=m/\C=c):=hid (by
  obtain⟨h,m,c,b,h2,l,k,q,u⟩:=HF.out;exact⟨h,m,c,zmu b h2 l HP.out.1 HP.out.2.1 HP.out.2.2 HV.out.2.1 HV.out.1,k,q,u⟩)
 have qb0:∀j,wr.frozen? ⟨gb+1,j,none⟩=false:=HV.out.2.2.2.1.frozen;have xb:∀j,wr.cell? ⟨gb+1,j,none⟩=(#[.bool false,.bool false,.bool false,.int .i64 0,.int .i64 0,.int .i64 0,.int .i64 0,.int .i64 0,.int .i64 0,.int .i64 0,.int .i64 0,.bool false]:Array Value)[j]? :=fun j=>HV.out.2.2.2.1.cell j
 obtain⟨ca0,ca1,ca2,ca3,ca4,ca5,ca6,ca7,ca8,ca9,ca10,ca11⟩:=zah HV.out.2.2.1;have i:Hid (Blk ((((((((((((wr.setCell ⟨gb+1,0,none⟩ (.bool date)).setCell ⟨gb+1,1,none⟩ (.bool true)).setCell ⟨gb+1,2,none⟩ (.bool false)).setCell ⟨gb+1,3,none⟩ (.int .i64 Y)).setCell ⟨gb+1,4,none⟩ (.int .i64 M)).setCell ⟨gb+1,5,none⟩ (.int .i64 D)).setCell ⟨gb+1,6,none⟩ (.int .i64 H)).setCell ⟨gb+1,7,none⟩ (.int .i64 N0)).setCell ⟨gb+1,8,none⟩ (.int .i64 C)).setCell ⟨gb+1,9,none⟩ (.int .i64 (F:Int))).setCell ⟨gb+1,10,none⟩ (.int .i64 0)).setCell ⟨gb+1,11,none⟩ (.bool false)) (gb+1) 147 (T12 date true false Y M D H N0 C (F:Int) 0 false)):=hid (zbc HV.out.2.2.2.1);have d:Hid (Below gb w ((((((((((((wr.setCell ⟨gb+1,0,none⟩ (.bool date)).setCell ⟨gb+1,1,none⟩ (.bool true)).setCell ⟨gb+1,2,none⟩ (.bool false)).setCell ⟨gb+1,3,none⟩ (.int .i64 Y)).setCell ⟨gb+1,4,none⟩ (.int .i64 M)).setCell ⟨gb+1,5,none⟩ (.int .i64 D)).setCell ⟨gb+1,6,none⟩ (.int .i64 H)).setCell ⟨gb+1,7,none⟩ (.int .i64 N0)).setCell ⟨gb+1,8,none⟩ (.int .i64 C)).setCell ⟨gb+1,9,none⟩ (.int .i64 (F:Int))).setCell ⟨gb+1,10,none⟩ (.int .i64 0)).setCell ⟨gb+1,11,none⟩ (.bool false))):=hid ((((((((((((HV.out.2.2.2.2.setCell (p:=⟨gb+1,0,none⟩) (by simp) (.bool date)).setCell (p:=⟨gb+1,1,none⟩) (by simp) (.bool true)).setCell (p:=⟨gb+1,2,none⟩) (by simp) (.bool false)).setCell (p:=⟨gb+1,3,none⟩) (by simp) (.int .i64 Y)).setCell (p:=⟨gb+1,4,none⟩) (by simp) (.int .i64 M)).setCell (p:=⟨gb+1,5,none⟩) (by simp) (.int .i64 D)).setCell (p:=⟨gb+1,6,none⟩) (by simp) (.int .i64 H)).setCell (p:=⟨gb+1,7,none⟩) (by simp) (.int .i64 N0)).setCell (p:=⟨gb+1,8,none⟩) (by simp) (.int .i64 C)).setCell (p:=⟨gb+1,9,none⟩) (by simp) (.int .i64 (F:Int))).setCell (p:=⟨gb+1,10,none⟩) (by simp) (.int .i64 0)).setCell (p:=⟨gb+1,11,none⟩) (by simp) (.bool false));obtain⟨e0,e1,e2,e3,e4,e5,e6,e7,e8,e9,e10,e11⟩:=zah i.out;by_cases hn1:n<1
 .have e:(n:Int)<1:=by omega
  go_wp2_with fail;refine bodyPost_ret (v:=.tuple #[.agg #[.bool date,.bool true,.bool false,.int .i64 Y,.int .i64 M,.int .i64 D,.int .i64 H,.int .i64 N0,.int .i64 C,.int .i64 (F:Int),.int .i64 0,.bool false],.int .i64 (-1)]) (by rw[results_cell_tmp rfl];go_simp) rfl ?_;exact HGO.out _ _ _ _ (by rw[HGB.out];exact d.out) (.inl ⟨by obtain⟨h,m,c,b,_⟩:=o.out;rw[b,if_pos (.inl hn1)],rfl⟩)
 .have e:¬(n:Int)<1:=by omega
  by_cases hn9:9<n
  .have g:(9:Int)<(n:Int):=by omega
   go_wp2_with fail;refine bodyPost_ret (v:=.tuple #[.agg #[.bool date,.bool true,.bool false,.int .i64 Y,.int .i64 M,.int .i64 D,.int .i64 H,.int .i64 N0,.int .i64 C,.int .i64 (F:Int),.int .i64 0,.bool false],.int .i64 (-1)]) (by rw[results_cell_tmp rfl];go_simp) rfl ?_;exact HGO.out _ _ _ _ (by rw[HGB.out];exact d.out) (.inl ⟨by obtain⟨h,m,c,b,_⟩:=o.out;rw[b,if_pos (.inr hn9)],rfl⟩)
  .have g:¬(9:Int)<(n:Int):=by omega
   go_wp2_with fail;refine bodyPost_ret (v:=.tuple #[.agg #[.bool date,.bool true,.bool false,.int .i64 Y,.int .i64 M,.int .i64 D,.int .i64 H,.int .i64 N0,.int .i64 C,.int .i64 (F:Int),.int .i64 0,.bool false],.int .i64 ((a:Int)+8+1+(n:Int))]) (by rw[results_cell_tmp rfl];go_simp) rfl ?_;refine HGO.out _ _ _ _ (by rw[HGB.out];exact d.out) (.inr ?_);obtain⟨h,m,c,b,h2,l,k⟩:=o.out;exact⟨h,m,c,F,a+9+n,by rw[b,if_neg (by omega)],by omega,rfl,h2,l,k,rfl⟩
theorem zmw (s:Gr.Str) (hl:s.length<=1073741823) (a:Nat) (ha:a<=1073741824) (date:Bool) (Y M D H N0 C:Int) (w wy:World) (gb:Nat)
 (HGO:Hid (∀(r:Int) (ok:Bool) (n:Int) (w':World),Below w.heap.size w w'->(clockAt s a=none/\r=-1\/∃h m c f t:Nat,clockAt s a=some ⟨h,m,c,f,t⟩/\r=(t:Int)/\ok=true/\H=h/\N0=m/\C=c/\n=f)->zbf s a date Y M D w (.returned (.tuple #[.agg #[.bool date,.bool ok,.bool false,.int .i64 Y,.int .i64 M,.int .i64 D,.int .i64 H,.int .i64 N0,.int .i64 C,.int .i64 n,.int .i64 0,.bool false],.int .i64 r])) w'))
 (HF:Hid (∃h m c:Nat,numAt s a 2=some h/\numAt s (a+3) 2=some m/\numAt s (a+6) 2=some c/\H=h/\N0=m/\C=c)) (HP:Hid (isAt s (a+2) 58=true/\isAt s (a+5) 58=true/\isAt s (a+8) 46=true))
 (HA8:Hid (a+9<=s.length)) (HGB:Hid (w.heap.size=gb)) (HB:Hid (Blk wy gb 147 (T12 date true false Y M D H N0 C 0 0 false)/\Blk wy (gb+1) 147 (T12 false false false 0 0 0 0 0 0 0 0 false)/\Below gb w wy))
 {u2 u3 u4 u7 u8 u9 u10 u11 u12 u13 u14 u15 u16 u17 u18 u19 u20 u21 u22 u23 u24 u25 u26 u27 u28 u29 u30 u31 u32 u33 u34 u35 u36 u37 u38 u39 u40 u41 u42 u43 u44 u45 u46 u47 u48 u49 u50 u51 u52 u53 u54 u55 u56 u57 u58 u59 u60 u61 u62 u63 u64 u65 u66 u67 u68 u69 u70 u71 u72 u73 u74 u75 u76 u77 u78 u79 u80 u81 u82 u83 u84 u85 u86 u87 u88 u89 u90 u91 u92 u93 u94 u95 u96 u97 u98 u99 u100 u101 u102 u103 u104 u105 u106 u107 u108 u109 u110 u111 u112 u113 u114 u115:Value}:
 Code.wp prog (tl 6 (f163.body.getD .skip)) (bodyPost prog f163 (zbf s a date Y M D w)) {tmps:=List.toArray (.string ⟨s.toArray⟩::.int .i64 ((a:Int)+8)::u2::u3::u4::.pointer (some ⟨gb,0,none⟩)::.pointer (some ⟨gb+1,0,none⟩)::u7::u8::u9::u10::u11::u12::u13::u14::u15::u16::u17::u18::u19::u20::u21::u22::u23::u24::u25::u26::u27::u28::u29::u30::u31::u32::u33::u34::u35::u36::u37::u38::u39::u40::u41::u42::u43::u44::u45::u46::u47::u48::u49::u50::u51::u52::u53::u54::u55::u56::u57::u58::u59::u60::u61::u62::u63::u64::u65::u66::u67::u68::u69::u70::u71::u72::u73::u74::u75::u76::u77::u78::u79::u80::u81::u82::u83::u84::u85::u86::u87::u88::u89::u90::u91::u92::u93::u94::u95::u96::u97::u98::u99::u100::u101::u102::u103::u104::u105::u106::u107::u108::u109::u110::u111::u112::u113::u114::u115::[]),defers:=[]} wy:=by
 generalize hc0:tl 6 (f163.body.getD .skip)=c0;simp only[tl,f163,Option.getD_some]at hc0;subst hc0;have ha0:(0:Int)<=(a:Int):=by omega
 go_upto_block 0 with fail;go_cut [8] (fun s8 P=>∃n F:Nat,s8=.int .i64 (n:Int)/\n<=s.length/\F<=999999999/\Hid ((∀h2:a+9+n<s.length,Gr.dig (s[a+9+n]'h2)=false)/\Frac s (a+9) n F (fracU n)/\Blk P gb 147 (T12 date true false Y M D H N0 C (F:Int) 0 false)/\Blk P (gb+1) 147 (T12 false false false 0 0 0 0 0 0 0 0 false)/\Below gb w P))
 case first=>
  go_wp2_with fail;go_loopw [8,9] (fun s8 s9 wr=>∃n F U:Nat,s8=.int .i64 (n:Int)/\s9=.int .i64 (U:Int)/\n<=s.length/\F<=999999999/\U<=100000000/\Hid (Frac s (a+9) n F U/\Blk wr gb 147 (T12 date true false Y M D H N0 C (F:Int) 0 false)/\Blk wr (gb+1) 147 (T12 false false false 0 0 0 0 0 0 0 0 false)/\Below gb w wr)) (fun s8 _ _=>s.length-(intOf s8).toNat)
  case atStart=>exact⟨0,0,100000000,rfl,rfl,by omega,by omega,by omega,hid ⟨Frac.start HA8.out,HB.out.1,HB.out.2.1,HB.out.2.2⟩⟩
  case round=>
   obtain⟨n,F,U,rfl,rfl,v,A,S,d⟩:=hrel;by_cases hlt:a+9+n<s.length
   .have q:(a:Int)+8+1+(n:Int)<(s.length:Int):=by omega
    have hidx:((a:Int)+8+1+(n:Int)).toNat=a+9+n:=by omega
    obtain⟨b,E⟩:∃b:Nat,(s[a+9+n]'hlt).toNat=b:=⟨_,rfl⟩
    have hbv:(((⟨s.toArray⟩:ByteArray)[a+9+n]'(by simpa[ByteArray.size]using hlt)).toNat:Int)=(b:Int):=by rw[<-E];rfl
    have hbl:b<256:=by rw[<-E];exact(s[a+9+n]'hlt).toNat_lt
    have o:=hid (zd0 (s[a+9+n]'hlt) b E);clear E;by_cases hd:48<=b/\b<=57
    .obtain⟨e,K⟩:=hd;have y:(48:Int)<=(b:Int):=by omega
     have I:(b:Int)<=57:=by omega
     obtain⟨x,N⟩:∃x:Nat,b-48=x:=⟨_,rfl⟩
     have hxi:(b:Int)-48=(x:Int):=by omega
     have J:x<=9:=by omega
     have l:Hid (Frac s (a+9) (n+1) (F+U*x) (U /10)):=hid (by
      have:=d.out.1.next hlt (by rw[o.out.1];simp[e,K]);rwa[o.out.2,N]at this)
     have HX:=hid N;clear N;have z:F+U*x<=999999999:=l.out.hi;obtain⟨G,B⟩:∃G:Nat,F+U*x=G:=⟨_,rfl⟩
     have O:(F:Int)+(U:Int)*(x:Int)=(G:Int):=by rw[<-B];simp
     have Q:U*x<=900000000:=Nat.le_trans (Nat.mul_le_mul S J) (by omega);have hm0:(0:Int)<=(U:Int)*(x:Int):=by rw[<-Int.natCast_mul];omega
     have hm1:(U:Int)*(x:Int)<=900000000:=by rw[<-Int.natCast_mul];omega
     rw[B]at l z;have HG:=hid B;clear B Q;have w1:IntKind.i64.wrap ((a:Int)+8+1)=(a:Int)+8+1:=IntWalk.i64_in _ (by omega);have w2:IntKind.i64.wrap ((a:Int)+8+1+(n:Int))=(a:Int)+8+1+(n:Int):=IntWalk.i64_in _ (by omega);have w3:IntKind.i64.wrap ((U:Int)*(x:Int))=(U:Int)*(x:Int):=IntWalk.i64_in _ (by omega);have w4:IntKind.i64.wrap ((F:Int)+(U:Int)*(x:Int))=(G:Int):=by rw[O];exact IntWalk.i64_in _ (by omega)
     have i0:(0:Int)<=(a:Int)+8+1+(n:Int):=by omega
     go_wp2_with fail;have R:∀W:WB wr.heap.size wr,W.w.cell? ⟨gb,9,none⟩=some (.int .i64 (F:Int)):=fun W=>(W.h.cell (p:=⟨gb,9,none⟩) d.out.2.1.lt).trans (d.out.2.1.cell 9)
     refine zbr 14 wr.heap.size wr (by kernel_rfl) (by kernel_rfl) (Below.refl _ _) ?_;simp only[List.take_succ_cons,List.take_zero,List.drop_succ_cons,List.drop_zero]
     iterate 14 (go_big_quiet_step (fail))
     refine wpQuiet_nil ?_;rintro _ ⟨k,rfl⟩;have i:=d.out.2.1.below k.h d.out.2.1.lt;have q9:k.w.cell? ⟨gb,9,none⟩=some (.int .i64 (F:Int)):=i.cell 9;have qf:∀j,k.w.frozen? ⟨gb,j,none⟩=false:=i.frozen;have L:Hid (Blk (k.w.setCell ⟨gb,9,none⟩ (.int .i64 (G:Int))) gb 147 (T12 date true false Y M D H N0 C (G:Int) 0 false)/\Blk (k.w.setCell ⟨gb,9,none⟩ (.int .i64 (G:Int))) (gb+1) 147 (T12 false false false 0 0 0 0 0 0 0 0 false)/\Below gb w (k.w.setCell ⟨gb,9,none⟩ (.int .i64 (G:Int)))):=hid ⟨i.set_ 9 _,(d.out.2.2.1.below k.h d.out.2.2.1.lt).far (Nat.succ_ne_self gb) _,(d.out.2.2.2.trans (k.h.mono (Nat.le_of_lt d.out.2.1.lt))).setCell (p:=⟨gb,9,none⟩) (by simp) _⟩;clear i R;go_wp2;go_roundw
     case rel=>exact⟨n+1,G,U /10,by go_num,by exact congrArg (Value.int .i64) (by omega),by omega,z,by omega,hid ⟨l.out,L.out⟩⟩
     case measure=>simp[intOf];omega
    .have g:Hid (∀h2:a+9+n<s.length,Gr.dig (s[a+9+n]'h2)=false):=hid (fun h2=>by rw[o.out.1];by_cases e:48<=b<;>simp[e]<;>omega);by_cases e:48<=b
     .have y:(48:Int)<=(b:Int):=by omega
      have I:¬(b:Int)<=57:=by omega
      go_wp2;go_meet;exact⟨n,F,rfl,v,A,hid ⟨g.out,by rw[<-d.out.1.u];exact d.out⟩⟩
     .have y:¬(48:Int)<=(b:Int):=by omega
      go_wp2;go_meet;exact⟨n,F,rfl,v,A,hid ⟨g.out,by rw[<-d.out.1.u];exact d.out⟩⟩
   .have g:Hid (∀h2:a+9+n<s.length,Gr.dig (s[a+9+n]'h2)=false):=hid (fun h2=>absurd h2 hlt);have q:¬(a:Int)+8+1+(n:Int)<(s.length:Int):=by omega
    go_wp2;go_meet;exact⟨n,F,rfl,v,A,hid ⟨g.out,by rw[<-d.out.1.u];exact d.out⟩⟩
 case rest=>
  obtain⟨n,F,rfl,v,A,d⟩:=hcut;refine(‹∀(a:Act) (w_1:World),Code.wp prog _ _ a w_1->_›) _ _ ?_;exact zmv s hl a ha date Y M D H N0 C w _ gb HGO HF HP HGB n F (fracU n) v A d
end Go.Proofs.YtpgmfihonmoliaaGreatDoor

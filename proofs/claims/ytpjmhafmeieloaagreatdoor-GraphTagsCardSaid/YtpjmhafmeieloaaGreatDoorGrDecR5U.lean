import Derived.Test.YtpjmhafmeieloaaGreatDoorZ08
namespace Go.Proofs.YtpjmhafmeieloaaGreatDoor
open Gr
open _root_.Go.Proofs.Tryz
open _root_.Go.Lib (hid)
set_option maxRecDepth 100000
set_option maxHeartbeats 16000000
open Go.RowKit
theorem zcu (s:Gr.Str) (k:Nat) (hk:k<s.length):s[k]? =some (s[k]'hk):=List.getElem?_eq_getElem hk
theorem ztp (s:Gr.Str) (hl:s.length<=268435455) (w wc0:World) (gb n c t:Nat) (A:Option Addr) (neg:Bool) (ev:Int) (ds:List Nat) (r:Option Gr.Dn) (HGB:Hid (w.heap.size=gb))
 (HT:Hid (n=ds.length/\t<=s.length/\ds.length<=536870911/\(∀v∈ds,v<10)/\-268435455<=ev/\ev<=0/\r=expS 1000000 neg ds ev (s.drop t))) (HO:Hid (OwnRow intL wc0 (gb+1) 3 (.slice A n c) ds)) (HB:Hid (Blk wc0 gb 131 #[.bool false,.slice none 0 0,.int .i64 0]/\Below gb w wc0))
 {u1 u3 u7 u9 u10 u11 u12 u13 u14 u15 u16 u17 u18 u19 u20 u21 u22 u23 u24 u25 u26 u27 u28 u29 u30 u31 u32 u33 u34 u35 u36 u37 u38 u39 u40 u41 u42 u43 u44 u45 u46 u47 u48 u49 u50 u51 u52 u53 u54 u55 u56 u57 u58 u59 u60 u61 u62 u63 u64 u65 u66 u67 u68 u69 u70 u71 u72 u73 u74 u75 u76 u77 u78 u79 u80 u81 u82 u83 u84 u85 u86 u87 u88 u89 u90 u91 u92 u93 u94 u95 u96 u97 u98 u99 u100 u101 u102 u103 u104 u105 u106 u107 u108 u109 u110 u111 u112 u113 u114 u115 u116 u117 u118 u119 u120 u121 u122 u123 u124 u125 u126 u127 u128 u129 u130 u131 u132 u133 u134 u135 u136 u137 u138 u139 u140 u141 u142 u143 u144 u145 u146 u147 u148 u149 u150 u151 u152 u153 u154:Value}:
 Code.wp prog (tl 9 (f114.body.getD .skip)) (bodyPost prog f114 (zcg r w)) {tmps:=List.toArray (.string ⟨s.toArray⟩::u1::.pointer (some ⟨gb,0,none⟩)::u3::.int .i64 (t:Int)::.bool neg::.slice A n c::u7::.int .i64 ev::u9::u10::u11::u12::u13::u14::u15::u16::u17::u18::u19::u20::u21::u22::u23::u24::u25::u26::u27::u28::u29::u30::u31::u32::u33::u34::u35::u36::u37::u38::u39::u40::u41::u42::u43::u44::u45::u46::u47::u48::u49::u50::u51::u52::u53::u54::u55::u56::u57::u58::u59::u60::u61::u62::u63::u64::u65::u66::u67::u68::u69::u70::u71::u72::u73::u74::u75::u76::u77::u78::u79::u80::u81::u82::u83::u84::u85::u86::u87::u88::u89::u90::u91::u92::u93::u94::u95::u96::u97::u98::u99::u100::u101::u102::u103::u104::u105::u106::u107::u108::u109::u110::u111::u112::u113::u114::u115::u116::u117::u118::u119::u120::u121::u122::u123::u124::u125::u126::u127::u128::u129::u130::u131::u132::u133::u134::u135::u136::u137::u138::u139::u140::u141::u142::u143::u144::u145::u146::u147::u148::u149::u150::u151::u152::u153::u154::[]),defers:=[]} wc0:=by
 obtain⟨d,ht2,ht3⟩:t<=s.length/\-268435455<=ev/\ev<=0:=⟨HT.out.2.1,HT.out.2.2.2.2.1,HT.out.2.2.2.2.2.1⟩
 generalize hc0:tl 9 (f114.body.getD .skip)=c0;simp only[tl,f114,Option.getD_some]at hc0;subst hc0;obtain⟨T,ah⟩:∃T,decide (s[t]? =some 101\/s[t]? =some 69)=T:=⟨_,rfl⟩
 have H:=hid ah;clear ah;go_upto_region 17 with fail;go_cut [92] (fun s92 L=>s92=.bool T/\L=wc0)
 case first=>
  by_cases hts:t<s.length
  .have ae:(t:Int)<(s.length:Int):=by omega
   obtain⟨g,k⟩:∃g,s[t]'hts=g:=⟨_,rfl⟩
   have o:s[t]? =some g:=by rw[zcu s t hts,k]
   have m:=H.out;rw[o]at m;by_cases h101:g=101
   .have J:=zax s t hts g 101 101 (by decide) k h101;have K:=zaq s t hts g 101 101 (by decide) k h101;obtain rfl:T=true:=by rw[<-m];simp[h101]
    clear k o m h101;go_wp2;go_meet;exact⟨rfl,rfl⟩
   .have J:=zao s t hts g 101 101 (by decide) k h101;have K:=zar s t hts g 101 101 (by decide) k h101;by_cases h69:g=69
    .have u:=zax s t hts g 69 69 (by decide) k h69;have G:=zaq s t hts g 69 69 (by decide) k h69;obtain rfl:T=true:=by rw[<-m];simp[h69]
     clear k o m h101 h69 J K;go_wp2;go_meet;exact⟨rfl,rfl⟩
    .have u:=zao s t hts g 69 69 (by decide) k h69;have G:=zar s t hts g 69 69 (by decide) k h69;obtain rfl:T=false:=by rw[<-m];simp[h101,h69]
     clear k o m h101 h69;go_wp2;go_meet;exact⟨rfl,rfl⟩
  .have ae:¬(t:Int)<(s.length:Int):=by omega
   obtain rfl:T=false:=by rw[<-H.out,List.getElem?_eq_none (by omega)];rfl
   go_wp2;go_meet;exact⟨rfl,rfl⟩
 case rest=>
 obtain⟨rfl,z⟩:=hcut;rw[z];clear z;go_upto_if 92 with fail;go_cut [4,8] (fun s4 s8 L=>∃(t2:Nat) (ev2:Int),s4=.int .i64 (t2:Int)/\s8=.int .i64 ev2/\Hid (t2<=s.length/\-1152921504606846976<=ev2/\ev2<=1152921504606846976/\r=if t2=s.length then some (norm neg ds ev2)else none)/\Hid (OwnRow intL L (gb+1) 3 (.slice A n c) ds)/\Hid (Blk L gb 131 #[.bool false,.slice none 0 0,.int .i64 0]/\Below gb w L))
 case first=>
  cases T with
  |false=>
   have h1:=of_decide_eq_false H.out;have E:Hid (t<=s.length/\-1152921504606846976<=ev/\ev<=1152921504606846976/\r=if t=s.length then some (norm neg ds ev)else none):=hid ⟨d,by omega,by omega,by
    rw[HT.out.2.2.2.2.2.2,zwz _ _ _ _ _ _ d (fun e=>h1 (.inl e)) (fun e=>h1 (.inr e))]⟩
   clear h1;go_wp2;go_meet;exact⟨t,ev,rfl,rfl,E,HO,HB⟩
  |true=>
   have h1:s[t]? =some 101\/s[t]? =some 69:=of_decide_eq_true H.out;have hts:t<s.length:=by
    rcases Nat.lt_or_ge t s.length with h|h
    .exact h
    .rw[List.getElem?_eq_none h]at h1;rcases h1 with h1|h1<;>cases h1
   obtain⟨b,hb⟩:∃b,(if s[t+1]? =some 45\/s[t+1]? =some 43 then t+2 else t+1)=b:=⟨_,rfl⟩
   obtain⟨f,hm⟩:∃f,decide (s[t+1]? =some 45)=f:=⟨_,rfl⟩
   have V:b<=s.length:=by
    rw[<-hb];split
    .rename_i h;rcases Nat.lt_or_ge (t+1) s.length with h2|h2
     .omega
     .rw[List.getElem?_eq_none h2]at h;rcases h with h|h<;>cases h
    .omega
   have HX:=hid (zw0 1000000 neg ds ev s t b f hts h1 hb.symm hm.symm V);obtain⟨S,ag⟩:∃S,decide (s[t+1]? =some 45\/s[t+1]? =some 43)=S:=⟨_,rfl⟩
   have N:=hid (And.intro ag (And.intro hm hb));have htI:(t:Int)<=268435455:=by omega
   clear ag hm hb h1 H;go_upto_region 20 with fail;go_cut [110] (fun s110 L=>s110=.bool S/\L=wc0)
   case first=>
    by_cases d:t+1<s.length
    .have R:(t:Int)+1<(s.length:Int):=by omega
     obtain⟨g,k⟩:∃g,s[t+1]'d=g:=⟨_,rfl⟩
     have o:s[t+1]? =some g:=by rw[zcu s (t+1) d,k]
     have m:=N.out.1;rw[o]at m;have an:((t:Int)+1).toNat=t+1:=by omega
     by_cases h43:g=43
     .have J:=zax s (t+1) d g 43 43 (by decide) k h43;have K:=zaq s (t+1) d g 43 43 (by decide) k h43;obtain rfl:S=true:=by rw[<-m];simp[h43]
      clear k o m h43;go_wp2;go_meet;exact⟨rfl,rfl⟩
     .have J:=zao s (t+1) d g 43 43 (by decide) k h43;have K:=zar s (t+1) d g 43 43 (by decide) k h43;by_cases h45:g=45
      .have u:=zax s (t+1) d g 45 45 (by decide) k h45;have G:=zaq s (t+1) d g 45 45 (by decide) k h45;obtain rfl:S=true:=by rw[<-m];simp[h45]
       clear k o m h43 h45;go_wp2;go_meet;exact⟨rfl,rfl⟩
      .have u:=zao s (t+1) d g 45 45 (by decide) k h45;have G:=zar s (t+1) d g 45 45 (by decide) k h45;obtain rfl:S=false:=by rw[<-m];simp[h43,h45]
       clear k o m h43 h45;go_wp2;go_meet;exact⟨rfl,rfl⟩
    .have R:¬(t:Int)+1<(s.length:Int):=by omega
     obtain rfl:S=false:=by rw[<-N.out.1,List.getElem?_eq_none (by omega)];rfl
     go_wp2;go_meet;exact⟨rfl,rfl⟩
   case rest=>
   obtain⟨rfl,z⟩:=hcut;rw[z];clear z;go_upto_if 110 with fail;go_cut [4,11] (fun s4 s11 L=>s4=.int .i64 (b:Int)/\s11=.int .i64 (if f=true then -1 else 1)/\L=wc0)
   case first=>
    obtain⟨g1,U,g3⟩:=N.out;cases S with
    |false=>
     have P:=of_decide_eq_false g1;obtain rfl:f=false:=by rw[<-U];exact decide_eq_false (fun e=>P (.inl e))
     rw[if_neg P]at g3;subst g3;clear P g1 U;go_wp2;go_meet;exact⟨by go_num,rfl,rfl⟩
    |true=>
     have P:=of_decide_eq_true g1;have d:t+1<s.length:=by
      rcases Nat.lt_or_ge (t+1) s.length with h2|h2
      .exact h2
      .rw[List.getElem?_eq_none h2]at P;rcases P with h|h<;>cases h
     have R:(t:Int)+1<(s.length:Int):=by omega
     have an:((t:Int)+1).toNat=t+1:=by omega
     rw[if_pos P]at g3;subst g3;obtain⟨g,k⟩:∃g,s[t+1]'d=g:=⟨_,rfl⟩
     have o:s[t+1]? =some g:=by rw[zcu s (t+1) d,k]
     rw[o]at U;by_cases h45:g=45
     .have u:=zax s (t+1) d g 45 45 (by decide) k h45;have G:=zaq s (t+1) d g 45 45 (by decide) k h45;obtain rfl:f=true:=by rw[<-U];simp[h45]
      clear k o h45 P g1 U;go_wp2;go_meet;exact⟨by go_num,rfl,rfl⟩
     .have u:=zao s (t+1) d g 45 45 (by decide) k h45;have G:=zar s (t+1) d g 45 45 (by decide) k h45;obtain rfl:f=false:=by rw[<-U];simp[h45]
      clear k o h45 P g1 U;go_wp2;go_meet;exact⟨by go_num,rfl,rfl⟩
   case rest=>
   obtain⟨rfl,rfl,z⟩:=hcut;rw[z];clear z N;have aj:=hid (fun W=>zdf s (by omega) b V W);obtain⟨l,D⟩:∃l:Int,(if f=true then -1 else 1:Int)=l:=⟨_,rfl⟩
   have hsg2:-1<=l/\l<=1:=by rw[<-D];cases f<;>simp
   rw[D]at HX ⊢;clear D;go_wp2_with fail;refine(aj.out _).mono ?_;rintro e w3 ⟨A9,c9,rfl,O,Q⟩;have B:=zrd s b V;obtain⟨X,hX⟩:∃X,rdg s b=X:=⟨_,rfl⟩
   have ai:Hid (∀v∈vals X,v<10):=hid (by rw[<-hX];exact zc7 _ (zec _));rw[hX]at O B HX ⊢;clear hX;obtain⟨M,hM⟩:∃M,X.length=M:=⟨_,rfl⟩
   have HM:=hid hM;rw[hM]at O B HX ⊢;have F:Hid (Blk w3 gb 131 #[.bool false,.slice none 0 0,.int .i64 0]/\Below gb w w3):=hid ⟨HB.out.1.below Q HB.out.1.lt,HB.out.2.trans (Q.mono (Nat.le_of_lt HB.out.1.lt))⟩;have av:=hid (HO.out.later Q);have aq:Hid (OwnRow intL w3 (gb+1) 3 (.slice A9 M c9) (vals X)):=hid (O.lower HB.out.1.lt);clear hM O Q;obtain⟨I,Y⟩:∃I,b+M=I:=⟨_,rfl⟩
   have Z:=hid Y;rw[Y]at B HX ⊢;clear Y;by_cases hM0:M=0
   .have HF:Hid (r=none):=hid (by rw[HT.out.2.2.2.2.2.2,HX.out,if_pos (List.eq_nil_of_length_eq_zero (by rw[HM.out];exact hM0))]);obtain rfl:I=b:=by have:=Z.out;omega
    clear hM0;have p0:∀j,w3.frozen? ⟨gb,j,none⟩=false:=F.out.1.frozen;obtain⟨q0,q1,q2⟩:=cells3 F.out.1;go_wp2_with fail;have u:=((F.out.1.set_ 0 (.bool false)).set_ 1 (.slice none 0 0)).set_ 2 (.int .i64 0);have e0:=u.cell 0;have e1:=u.cell 1;have e2:=u.cell 2;refine bodyPost_ret (v:=.tuple #[.agg #[.bool false,.slice none 0 0,.int .i64 0],.bool false]) (by rw[results_cell_tmp rfl];go_simp) rfl ?_;rw[HF.out];unfold zcg;rw[HGB.out];exact⟨zeroD,_,rfl,⟨none,0,rfl,OwnRow.nil⟩,fun y h=>(by cases h),((F.out.2.setCell (p:=⟨gb,0,none⟩) (by simp) _).setCell (p:=⟨gb,1,none⟩) (by simp) _).setCell (p:=⟨gb,2,none⟩) (by simp) _⟩
   .have ab:¬((I:Int)=(b:Int)):=by have:=Z.out;omega
    have hk2b:((I:Int)==(b:Int))=false:=by simpa using ab
    obtain⟨Av,cv,aw,aa⟩:=aq.out.form;injection aw with e1 e2 e3
    subst e1;have ar:Hid (RowAt intL w3 w3.heap.size A9 (vals X)):=hid aa;have ao:Hid (r=if I=s.length then some (norm neg ds (ev+l*(satv 1000000 X:Int)))else none):=hid (by
     rw[HT.out.2.2.2.2.2.2,HX.out,if_neg (fun e=>hM0 (by rw[<-HM.out,e];rfl))])
    clear aa e2 e3 HX;go_wp2_with fail;go_loop [14,15] (fun s14 s15=>∃i q:Nat,i<=M/\q<=1000000/\s14=.int .i64 (q:Int)/\s15=.int .i64 (i:Int)/\Hid (q=satv 1000000 (X.take i))) (fun _ s15=>M-(intOf s15).toNat)
    case atStart=>exact⟨0,0,by omega,by omega,rfl,rfl,hid (by simp[satv])⟩
    case round=>
     obtain⟨i,q,hi,hq,rfl,rfl,HQ⟩:=hrel;by_cases hlt:i<M
     .have ac:(i:Int)<(M:Int):=by omega
      have C:i<X.length:=by rw[HM.out];exact hlt
      obtain⟨ad,rfl,_,y0⟩:=zae ar.out (show i<(vals X).length by rw[zbc];exact C);have ak:(vals X)[i]'(by rw[zbc];exact C)<10:=ai.out _ (List.getElem_mem _);have af:Hid (satv 1000000 (X.take (i+1))=min (10*q+(vals X)[i]'(by rw[zbc];exact C)) 1000000):=hid (by
       rw[List.take_succ_eq_append_getElem C,HQ.out];unfold satv;rw[List.foldl_append];simp[vals])
      obtain⟨x,hx⟩:∃x,(vals X)[i]'(by rw[zbc];exact C)=x:=⟨_,rfl⟩
      rw[hx]at y0 ak af;have hxI:(x:Int)<10:=by omega
      have hx0:(0:Int)<=(x:Int):=by omega
      have hqI:(q:Int)<=1000000:=by omega
      have hq0:(0:Int)<=(q:Int):=by omega
      clear hx C;have al:Hid (min (10*q+x) 1000000=satv 1000000 (X.take (i+1))):=hid af.out.symm;have hiI:(i:Int)<=268435455:=by have:=Z.out;omega
      go_wp2;go_round
      case rel=>exact⟨i+1,min (10*q+x) 1000000,by omega,by omega,by rw[show((min (10*q+x) 1000000:Nat):Int)=min (10*(q:Int)+(x:Int)) 1000000 from by omega],by go_num,al⟩
      case measure=>simp[intOf];omega
     .have ac:¬(i:Int)<(M:Int):=by omega
      have am:Hid (q=satv 1000000 X):=hid (by
       have:=HQ.out;rwa[List.take_of_length_le (by have:=HM.out;omega)]at this)
      have hp0:-1000000<=l*(q:Int):=by
       have:l=-1\/l=0\/l=1:=by omega
       rcases this with h|h|h<;>rw[h]<;>omega
      have hp1:l*(q:Int)<=1000000:=by
       have:l=-1\/l=0\/l=1:=by omega
       rcases this with h|h|h<;>rw[h]<;>omega
      have E:Hid (I<=s.length/\-1152921504606846976<=ev+l*(q:Int)/\ev+l*(q:Int)<=1152921504606846976/\r=if I=s.length then some (norm neg ds (ev+l*(q:Int)))else none):=hid ⟨B,by omega,by omega,by rw[ao.out,am.out]⟩;go_wp2;go_meet;exact⟨I,_,rfl,rfl,E,av,F⟩
 case rest=>
 obtain⟨t2,ev2,rfl,rfl,E,ap,au⟩:=hcut;refine(‹∀(a:Act) (w_1:World),Code.wp prog _ _ a w_1->_›) _ _ ?_;exact zrf s hl w _ gb n c t2 A neg ev2 ds r HGB (hid ⟨HT.out.1,HT.out.2.2.1,HT.out.2.2.2.1⟩) E ap au
end Go.Proofs.YtpjmhafmeieloaaGreatDoor

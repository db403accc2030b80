import Derived.Test.YtpgmfihonmoliaaGreatDoorZ11
namespace Go.Proofs.YtpgmfihonmoliaaGreatDoor
open Gr
open _root_.Go.Proofs.Tryz
open _root_.Go.Lib (hid)
set_option maxRecDepth 100000
set_option maxHeartbeats 16000000
open Go.RowKit
theorem zcr (s:Gr.Str) (k:Nat) (hk:k<s.length):s[k]? =some (s[k]'hk):=List.getElem?_eq_getElem hk
theorem ztj (s:Gr.Str) (hl:s.length<=268435455) (w wc0:World) (gb n c t:Nat) (A:Option Addr) (neg:Bool) (ev:Int) (ds:List Nat) (r:Option Gr.Dn) (HGB:Hid (w.heap.size=gb))
 (HT:Hid (n=ds.length/\t<=s.length/\ds.length<=536870911/\(∀v∈ds,v<10)/\-268435455<=ev/\ev<=0/\r=expS 1000000 neg ds ev (s.drop t))) (HO:Hid (OwnRow intL wc0 (gb+1) 3 (.slice A n c) ds)) (HB:Hid (Blk wc0 gb 102 #[.bool false,.slice none 0 0,.int .i64 0]/\Below gb w wc0))
 {u1 u3 u7 u9 u10 u11 u12 u13 u14 u15 u16 u17 u18 u19 u20 u21 u22 u23 u24 u25 u26 u27 u28 u29 u30 u31 u32 u33 u34 u35 u36 u37 u38 u39 u40 u41 u42 u43 u44 u45 u46 u47 u48 u49 u50 u51 u52 u53 u54 u55 u56 u57 u58 u59 u60 u61 u62 u63 u64 u65 u66 u67 u68 u69 u70 u71 u72 u73 u74 u75 u76 u77 u78 u79 u80 u81 u82 u83 u84 u85 u86 u87 u88 u89 u90 u91 u92 u93 u94 u95 u96 u97 u98 u99 u100 u101 u102 u103 u104 u105 u106 u107 u108 u109 u110 u111 u112 u113 u114 u115 u116 u117 u118 u119 u120 u121 u122 u123 u124 u125 u126 u127 u128 u129 u130 u131 u132 u133 u134 u135 u136 u137 u138 u139 u140 u141 u142 u143 u144 u145 u146 u147 u148 u149 u150 u151 u152 u153 u154:Value}:
 Code.wp prog (tl 9 (f94.body.getD .skip)) (bodyPost prog f94 (zcf r w)) {tmps:=List.toArray (.string ⟨s.toArray⟩::u1::.pointer (some ⟨gb,0,none⟩)::u3::.int .i64 (t:Int)::.bool neg::.slice A n c::u7::.int .i64 ev::u9::u10::u11::u12::u13::u14::u15::u16::u17::u18::u19::u20::u21::u22::u23::u24::u25::u26::u27::u28::u29::u30::u31::u32::u33::u34::u35::u36::u37::u38::u39::u40::u41::u42::u43::u44::u45::u46::u47::u48::u49::u50::u51::u52::u53::u54::u55::u56::u57::u58::u59::u60::u61::u62::u63::u64::u65::u66::u67::u68::u69::u70::u71::u72::u73::u74::u75::u76::u77::u78::u79::u80::u81::u82::u83::u84::u85::u86::u87::u88::u89::u90::u91::u92::u93::u94::u95::u96::u97::u98::u99::u100::u101::u102::u103::u104::u105::u106::u107::u108::u109::u110::u111::u112::u113::u114::u115::u116::u117::u118::u119::u120::u121::u122::u123::u124::u125::u126::u127::u128::u129::u130::u131::u132::u133::u134::u135::u136::u137::u138::u139::u140::u141::u142::u143::u144::u145::u146::u147::u148::u149::u150::u151::u152::u153::u154::[]),defers:=[]} wc0:=by
 obtain⟨d,ht2,ht3⟩:t<=s.length/\-268435455<=ev/\ev<=0:=⟨HT.out.2.1,HT.out.2.2.2.2.1,HT.out.2.2.2.2.2.1⟩
 generalize hc0:tl 9 (f94.body.getD .skip)=c0;simp only[tl,f94,Option.getD_some]at hc0;subst hc0;obtain⟨T,ac⟩:∃T,decide (s[t]? =some 101\/s[t]? =some 69)=T:=⟨_,rfl⟩
 have E:=hid ac;clear ac;go_upto_region 17 with fail;go_cut [92] (fun s92 J=>s92=.bool T/\J=wc0)
 case first=>
  by_cases hts:t<s.length
  .have af:(t:Int)<(s.length:Int):=by omega
   obtain⟨g,l⟩:∃g,s[t]'hts=g:=⟨_,rfl⟩
   have o:s[t]? =some g:=by rw[zcr s t hts,l]
   have m:=E.out;rw[o]at m;by_cases h101:g=101
   .have Q:=zax s t hts g 101 101 (by decide) l h101;have P:=zar s t hts g 101 101 (by decide) l h101;obtain rfl:T=true:=by rw[<-m];simp[h101]
    clear l o m h101;go_wp2;go_meet;exact⟨rfl,rfl⟩
   .have Q:=zap s t hts g 101 101 (by decide) l h101;have P:=zas s t hts g 101 101 (by decide) l h101;by_cases h69:g=69
    .have u:=zax s t hts g 69 69 (by decide) l h69;have F:=zar s t hts g 69 69 (by decide) l h69;obtain rfl:T=true:=by rw[<-m];simp[h69]
     clear l o m h101 h69 Q P;go_wp2;go_meet;exact⟨rfl,rfl⟩
    .have u:=zap s t hts g 69 69 (by decide) l h69;have F:=zas s t hts g 69 69 (by decide) l h69;obtain rfl:T=false:=by rw[<-m];simp[h101,h69]
     clear l o m h101 h69;go_wp2;go_meet;exact⟨rfl,rfl⟩
  .have af:¬(t:Int)<(s.length:Int):=by omega
   obtain rfl:T=false:=by rw[<-E.out,List.getElem?_eq_none (by omega)];rfl
   go_wp2;go_meet;exact⟨rfl,rfl⟩
 case rest=>
 obtain⟨rfl,z⟩:=hcut;rw[z];clear z;go_upto_if 92 with fail;go_cut [4,8] (fun s4 s8 J=>∃(t2:Nat) (ev2:Int),s4=.int .i64 (t2:Int)/\s8=.int .i64 ev2/\Hid (t2<=s.length/\-1152921504606846976<=ev2/\ev2<=1152921504606846976/\r=if t2=s.length then some (norm neg ds ev2)else none)/\Hid (OwnRow intL J (gb+1) 3 (.slice A n c) ds)/\Hid (Blk J gb 102 #[.bool false,.slice none 0 0,.int .i64 0]/\Below gb w J))
 case first=>
  cases T with
  |false=>
   have h1:=of_decide_eq_false E.out;have H:Hid (t<=s.length/\-1152921504606846976<=ev/\ev<=1152921504606846976/\r=if t=s.length then some (norm neg ds ev)else none):=hid ⟨d,by omega,by omega,by
    rw[HT.out.2.2.2.2.2.2,zwj _ _ _ _ _ _ d (fun e=>h1 (.inl e)) (fun e=>h1 (.inr e))]⟩
   clear h1;go_wp2;go_meet;exact⟨t,ev,rfl,rfl,H,HO,HB⟩
  |true=>
   have h1:s[t]? =some 101\/s[t]? =some 69:=of_decide_eq_true E.out;have hts:t<s.length:=by
    rcases Nat.lt_or_ge t s.length with h|h
    .exact h
    .rw[List.getElem?_eq_none h]at h1;rcases h1 with h1|h1<;>cases h1
   obtain⟨b,hb⟩:∃b,(if s[t+1]? =some 45\/s[t+1]? =some 43 then t+2 else t+1)=b:=⟨_,rfl⟩
   obtain⟨f,hm⟩:∃f,decide (s[t+1]? =some 45)=f:=⟨_,rfl⟩
   have Y:b<=s.length:=by
    rw[<-hb];split
    .rename_i h;rcases Nat.lt_or_ge (t+1) s.length with h2|h2
     .omega
     .rw[List.getElem?_eq_none h2]at h;rcases h with h|h<;>cases h
    .omega
   have HX:=hid (zwk 1000000 neg ds ev s t b f hts h1 hb.symm hm.symm Y);obtain⟨S,aa⟩:∃S,decide (s[t+1]? =some 45\/s[t+1]? =some 43)=S:=⟨_,rfl⟩
   have L:=hid (And.intro aa (And.intro hm hb));have htI:(t:Int)<=268435455:=by omega
   clear aa hm hb h1 E;go_upto_region 20 with fail;go_cut [110] (fun s110 J=>s110=.bool S/\J=wc0)
   case first=>
    by_cases d:t+1<s.length
    .have R:(t:Int)+1<(s.length:Int):=by omega
     obtain⟨g,l⟩:∃g,s[t+1]'d=g:=⟨_,rfl⟩
     have o:s[t+1]? =some g:=by rw[zcr s (t+1) d,l]
     have m:=L.out.1;rw[o]at m;have av:((t:Int)+1).toNat=t+1:=by omega
     by_cases h43:g=43
     .have Q:=zax s (t+1) d g 43 43 (by decide) l h43;have P:=zar s (t+1) d g 43 43 (by decide) l h43;obtain rfl:S=true:=by rw[<-m];simp[h43]
      clear l o m h43;go_wp2;go_meet;exact⟨rfl,rfl⟩
     .have Q:=zap s (t+1) d g 43 43 (by decide) l h43;have P:=zas s (t+1) d g 43 43 (by decide) l h43;by_cases h45:g=45
      .have u:=zax s (t+1) d g 45 45 (by decide) l h45;have F:=zar s (t+1) d g 45 45 (by decide) l h45;obtain rfl:S=true:=by rw[<-m];simp[h45]
       clear l o m h43 h45;go_wp2;go_meet;exact⟨rfl,rfl⟩
      .have u:=zap s (t+1) d g 45 45 (by decide) l h45;have F:=zas s (t+1) d g 45 45 (by decide) l h45;obtain rfl:S=false:=by rw[<-m];simp[h43,h45]
       clear l o m h43 h45;go_wp2;go_meet;exact⟨rfl,rfl⟩
    .have R:¬(t:Int)+1<(s.length:Int):=by omega
     obtain rfl:S=false:=by rw[<-L.out.1,List.getElem?_eq_none (by omega)];rfl
     go_wp2;go_meet;exact⟨rfl,rfl⟩
   case rest=>
   obtain⟨rfl,z⟩:=hcut;rw[z];clear z;go_upto_if 110 with fail;go_cut [4,11] (fun s4 s11 J=>s4=.int .i64 (b:Int)/\s11=.int .i64 (if f=true then -1 else 1)/\J=wc0)
   case first=>
    obtain⟨g1,U,g3⟩:=L.out;cases S with
    |false=>
     have O:=of_decide_eq_false g1;obtain rfl:f=false:=by rw[<-U];exact decide_eq_false (fun e=>O (.inl e))
     rw[if_neg O]at g3;subst g3;clear O g1 U;go_wp2;go_meet;exact⟨by go_num,rfl,rfl⟩
    |true=>
     have O:=of_decide_eq_true g1;have d:t+1<s.length:=by
      rcases Nat.lt_or_ge (t+1) s.length with h2|h2
      .exact h2
      .rw[List.getElem?_eq_none h2]at O;rcases O with h|h<;>cases h
     have R:(t:Int)+1<(s.length:Int):=by omega
     have av:((t:Int)+1).toNat=t+1:=by omega
     rw[if_pos O]at g3;subst g3;obtain⟨g,l⟩:∃g,s[t+1]'d=g:=⟨_,rfl⟩
     have o:s[t+1]? =some g:=by rw[zcr s (t+1) d,l]
     rw[o]at U;by_cases h45:g=45
     .have u:=zax s (t+1) d g 45 45 (by decide) l h45;have F:=zar s (t+1) d g 45 45 (by decide) l h45;obtain rfl:f=true:=by rw[<-U];simp[h45]
      clear l o h45 O g1 U;go_wp2;go_meet;exact⟨by go_num,rfl,rfl⟩
     .have u:=zap s (t+1) d g 45 45 (by decide) l h45;have F:=zas s (t+1) d g 45 45 (by decide) l h45;obtain rfl:f=false:=by rw[<-U];simp[h45]
      clear l o h45 O g1 U;go_wp2;go_meet;exact⟨by go_num,rfl,rfl⟩
   case rest=>
   obtain⟨rfl,rfl,z⟩:=hcut;rw[z];clear z L;have am:=hid (fun W=>zde s (by omega) b Y W);obtain⟨k,G⟩:∃k:Int,(if f=true then -1 else 1:Int)=k:=⟨_,rfl⟩
   have hsg2:-1<=k/\k<=1:=by rw[<-G];cases f<;>simp
   rw[G]at HX ⊢;clear G;go_wp2_with fail;refine(am.out _).mono ?_;rintro e w3 ⟨A9,c9,rfl,N,I⟩;have B:=zqu s b Y;obtain⟨X,hX⟩:∃X,rdg s b=X:=⟨_,rfl⟩
   have al:Hid (∀v∈vals X,v<10):=hid (by rw[<-hX];exact zc7 _ (zd9 _));rw[hX]at N B HX ⊢;clear hX;obtain⟨M,hM⟩:∃M,X.length=M:=⟨_,rfl⟩
   have HM:=hid hM;rw[hM]at N B HX ⊢;have D:Hid (Blk w3 gb 102 #[.bool false,.slice none 0 0,.int .i64 0]/\Below gb w w3):=hid ⟨HB.out.1.below I HB.out.1.lt,HB.out.2.trans (I.mono (Nat.le_of_lt HB.out.1.lt))⟩;have aw:=hid (HO.out.later I);have ap:Hid (OwnRow intL w3 (gb+1) 3 (.slice A9 M c9) (vals X)):=hid (N.lower HB.out.1.lt);clear hM N I;obtain⟨K,Z⟩:∃K,b+M=K:=⟨_,rfl⟩
   have V:=hid Z;rw[Z]at B HX ⊢;clear Z;by_cases hM0:M=0
   .have HF:Hid (r=none):=hid (by rw[HT.out.2.2.2.2.2.2,HX.out,if_pos (List.eq_nil_of_length_eq_zero (by rw[HM.out];exact hM0))]);obtain rfl:K=b:=by have:=V.out;omega
    clear hM0;have p0:∀j,w3.frozen? ⟨gb,j,none⟩=false:=D.out.1.frozen;obtain⟨q0,q1,q2⟩:=cells3 D.out.1;go_wp2_with fail;have u:=((D.out.1.set_ 0 (.bool false)).set_ 1 (.slice none 0 0)).set_ 2 (.int .i64 0);have e0:=u.cell 0;have e1:=u.cell 1;have e2:=u.cell 2;refine bodyPost_ret (v:=.tuple #[.agg #[.bool false,.slice none 0 0,.int .i64 0],.bool false]) (by rw[results_cell_tmp rfl];go_simp) rfl ?_;rw[HF.out];unfold zcf;rw[HGB.out];exact⟨zeroD,_,rfl,⟨none,0,rfl,OwnRow.nil⟩,fun y h=>(by cases h),((D.out.2.setCell (p:=⟨gb,0,none⟩) (by simp) _).setCell (p:=⟨gb,1,none⟩) (by simp) _).setCell (p:=⟨gb,2,none⟩) (by simp) _⟩
   .have ah:¬((K:Int)=(b:Int)):=by have:=V.out;omega
    have hk2b:((K:Int)==(b:Int))=false:=by simpa using ah
    obtain⟨Av,cv,ao,ab⟩:=ap.out.form;injection ao with e1 e2 e3
    subst e1;have an:Hid (RowAt intL w3 w3.heap.size A9 (vals X)):=hid ab;have ar:Hid (r=if K=s.length then some (norm neg ds (ev+k*(satv 1000000 X:Int)))else none):=hid (by
     rw[HT.out.2.2.2.2.2.2,HX.out,if_neg (fun e=>hM0 (by rw[<-HM.out,e];rfl))])
    clear ab e2 e3 HX;go_wp2_with fail;go_loop [14,15] (fun s14 s15=>∃i q:Nat,i<=M/\q<=1000000/\s14=.int .i64 (q:Int)/\s15=.int .i64 (i:Int)/\Hid (q=satv 1000000 (X.take i))) (fun _ s15=>M-(intOf s15).toNat)
    case atStart=>exact⟨0,0,by omega,by omega,rfl,rfl,hid (by simp[satv])⟩
    case round=>
     obtain⟨i,q,hi,hq,rfl,rfl,HQ⟩:=hrel;by_cases hlt:i<M
     .have ag:(i:Int)<(M:Int):=by omega
      have C:i<X.length:=by rw[HM.out];exact hlt
      obtain⟨ad,rfl,_,y0⟩:=zaf an.out (show i<(vals X).length by rw[zbd];exact C);have ai:(vals X)[i]'(by rw[zbd];exact C)<10:=al.out _ (List.getElem_mem _);have ae:Hid (satv 1000000 (X.take (i+1))=min (10*q+(vals X)[i]'(by rw[zbd];exact C)) 1000000):=hid (by
       rw[List.take_succ_eq_append_getElem C,HQ.out];unfold satv;rw[List.foldl_append];simp[vals])
      obtain⟨x,hx⟩:∃x,(vals X)[i]'(by rw[zbd];exact C)=x:=⟨_,rfl⟩
      rw[hx]at y0 ai ae;have hxI:(x:Int)<10:=by omega
      have hx0:(0:Int)<=(x:Int):=by omega
      have hqI:(q:Int)<=1000000:=by omega
      have hq0:(0:Int)<=(q:Int):=by omega
      clear hx C;have au:Hid (min (10*q+x) 1000000=satv 1000000 (X.take (i+1))):=hid ae.out.symm;have hiI:(i:Int)<=268435455:=by have:=V.out;omega
      go_wp2;go_round
      case rel=>exact⟨i+1,min (10*q+x) 1000000,by omega,by omega,by rw[show((min (10*q+x) 1000000:Nat):Int)=min (10*(q:Int)+(x:Int)) 1000000 from by omega],by go_num,au⟩
      case measure=>simp[intOf];omega
     .have ag:¬(i:Int)<(M:Int):=by omega
      have ak:Hid (q=satv 1000000 X):=hid (by
       have:=HQ.out;rwa[List.take_of_length_le (by have:=HM.out;omega)]at this)
      have hp0:-1000000<=k*(q:Int):=by
       have:k=-1\/k=0\/k=1:=by omega
       rcases this with h|h|h<;>rw[h]<;>omega
      have hp1:k*(q:Int)<=1000000:=by
       have:k=-1\/k=0\/k=1:=by omega
       rcases this with h|h|h<;>rw[h]<;>omega
      have H:Hid (K<=s.length/\-1152921504606846976<=ev+k*(q:Int)/\ev+k*(q:Int)<=1152921504606846976/\r=if K=s.length then some (norm neg ds (ev+k*(q:Int)))else none):=hid ⟨B,by omega,by omega,by rw[ar.out,ak.out]⟩;go_wp2;go_meet;exact⟨K,_,rfl,rfl,H,aw,D⟩
 case rest=>
 obtain⟨t2,ev2,rfl,rfl,H,aq,aj⟩:=hcut;refine(‹∀(a:Act) (w_1:World),Code.wp prog _ _ a w_1->_›) _ _ ?_;exact zqw s hl w _ gb n c t2 A neg ev2 ds r HGB (hid ⟨HT.out.1,HT.out.2.2.1,HT.out.2.2.2.1⟩) H aq aj
end Go.Proofs.YtpgmfihonmoliaaGreatDoor
